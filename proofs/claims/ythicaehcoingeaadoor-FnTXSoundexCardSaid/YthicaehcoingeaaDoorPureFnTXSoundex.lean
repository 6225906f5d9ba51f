/-
  The soundex of a word, of its small letters, and of each letter twice: the plain law. No condition beyond the guards of the law itself.
-/
import Derived.Test.YthicaehcoingeaaDoorPTS1
import Derived.OpenShut
import Derived.Lib.Strings
namespace Go.Proofs.YthicaehcoingeaaDoor.Pure
open Go.RowKit Go.Proofs.YthicaehcoingeaaDoor.PTS Go.Proofs.YthicaehcoingeaaDoorW.PrintWords Go.Proofs.YthicaehcoingeaaDoorW.PrintLast
set_option linter.unusedVariables false
set_option maxRecDepth 100000

theorem wrap_id (i : Int) (h : -9223372036854775808 ≤ i) (h1 : i ≤ 9223372036854775807) : wrap64 i = i := by unfold wrap64; omega

def smallL (u : List UInt8) : List UInt8 := u.map (· + 32)
def dbl (u : List UInt8) : List UInt8 := u.flatMap fun b => [b, b]

theorem caps_facts : ∀ k : Fin 256, 65 ≤ k.val → k.val ≤ 90 → Lib.upperB (UInt8.ofNat k.val) = UInt8.ofNat k.val ∧ Lib.upperB (UInt8.ofNat k.val + 32) = UInt8.ofNat k.val ∧ 97 ≤ (UInt8.ofNat k.val + 32).toNat ∧ (UInt8.ofNat k.val + 32).toNat ≤ 122 := by decide +kernel
theorem caps_fact {b : UInt8} (h : 65 ≤ b.toNat ∧ b.toNat ≤ 90) : Lib.upperB b = b ∧ Lib.upperB (b + 32) = b ∧ 97 ≤ (b + 32).toNat ∧ (b + 32).toNat ≤ 122 := by
  have := caps_facts ⟨b.toNat, b.toNat_lt⟩ h.1 h.2
  simpa using this
theorem upper_caps : ∀ (u : List UInt8), Caps u → Lib.toUpperA u = u
  | [], _ => rfl
  | b :: t, h => by
    have h1 := (caps_fact (h b (List.mem_cons_self ..))).1
    have h2 := upper_caps t fun x hx => h x (List.mem_cons_of_mem _ hx)
    unfold Lib.toUpperA at h2 ⊢
    rw [List.map_cons, h1, h2]
theorem upper_small : ∀ (u : List UInt8), Caps u → Lib.toUpperA (smallL u) = u
  | [], _ => rfl
  | b :: t, h => by
    have h1 := (caps_fact (h b (List.mem_cons_self ..))).2.1
    have h2 := upper_small t fun x hx => h x (List.mem_cons_of_mem _ hx)
    unfold Lib.toUpperA smallL at h2 ⊢
    rw [List.map_cons, List.map_cons, h1, h2]
theorem caps_dbl (u : List UInt8) (h : Caps u) : Caps (dbl u) := by
  intro b hb
  unfold dbl at hb
  obtain ⟨x, hx, hb⟩ := List.mem_flatMap.1 hb
  simp at hb
  subst hb
  exact h _ hx
theorem letters_caps (u : List UInt8) (h : Caps u) : letters u = true := by
  refine List.all_eq_true.2 fun b hb => ?_
  have := h b hb
  simp [this.1, this.2]
theorem letters_small (u : List UInt8) (h : Caps u) : letters (smallL u) = true := by
  refine List.all_eq_true.2 fun b hb => ?_
  obtain ⟨x, hx, rfl⟩ := List.mem_map.1 hb
  have := (caps_fact (h x hx)).2.2
  simp only [this.1, this.2, decide_true, Bool.and_self, Bool.or_true]

theorem step_twice (st : Int × List UInt8) (b : UInt8) : sxStep (sxStep st b) b = sxStep st b := by
  have hr := sxCode_range (b.toNat : Int)
  unfold sxStep
  split
  · simp only
    rw [if_neg (by omega)]
    rw [if_pos (Or.inr trivial)]
  · split
    · rfl
    · simp only
      rw [if_neg (by omega), if_pos (Or.inr trivial)]
theorem fold_dbl : ∀ (u : List UInt8) (st : Int × List UInt8), (dbl u).foldl sxStep st = u.foldl sxStep st
  | [], _ => rfl
  | b :: t, st => by
    show (dbl t).foldl sxStep (sxStep (sxStep st b) b) = _
    rw [step_twice, fold_dbl t]
    rfl
theorem sx_dbl (u : List UInt8) : sxFold (dbl u) = sxFold u := fold_dbl u _

def Digits (l : List UInt8) : Prop := ∀ b ∈ l, 48 ≤ b.toNat ∧ b.toNat ≤ 54
theorem fold_head (c : UInt8) : ∀ (u : List UInt8) (st : Int × List UInt8), 48 ≤ st.1 → (∃ r, st.2 = c :: r ∧ Digits r) → ∃ r, (u.foldl sxStep st).2 = c :: r ∧ Digits r
  | [], st, _, h => h
  | b :: t, st, h1, h => by
    refine fold_head c t _ ?_ ?_
    · have hr := sxCode_range (b.toNat : Int)
      unfold sxStep
      rw [if_neg (by omega)]
      split
      · exact h1
      · exact hr.1
    · have hr := sxCode_range (b.toNat : Int)
      unfold sxStep
      rw [if_neg (by omega)]
      split
      · exact h
      · obtain ⟨r, e, hd⟩ := h
        refine ⟨r ++ [UInt8.ofNat (sxCode b.toNat).toNat], by simp [e], fun x hx => ?_⟩
        rcases List.mem_append.1 hx with hx | hx
        · exact hd x hx
        · obtain rfl := List.mem_singleton.1 hx
          simp only [UInt8.toNat_ofNat']
          omega
theorem sx_head (c : UInt8) (t : List UInt8) : ∃ r, pad4 (sxFold (c :: t)).2 = c :: r ∧ Digits r ∧ 3 ≤ r.length := by
  have hr := sxCode_range (c.toNat : Int)
  obtain ⟨r, e, hd⟩ := fold_head c t (sxStep (0, []) c) (by unfold sxStep; rw [if_pos rfl]; exact hr.1) ⟨[], by unfold sxStep; rw [if_pos rfl]; rfl, by intro b hb; cases hb⟩
  refine ⟨r ++ List.replicate (4 - (r.length + 1)) 48, ?_, ?_, ?_⟩
  · unfold pad4 sxFold
    rw [List.foldl_cons, e]
    rfl
  · intro b hb
    rcases List.mem_append.1 hb with hb | hb
    · exact hd b hb
    · obtain rfl := (List.mem_replicate.1 hb).2
      exact ⟨by decide, by decide⟩
  · simp; omega

theorem sx_len (u : List UInt8) (acc : Int × List UInt8) : (u.foldl sxStep acc).2.length ≤ acc.2.length + u.length := by
  induction u generalizing acc with
  | nil => simp
  | cons b t ih =>
    refine Nat.le_trans (ih _) ?_
    have : (sxStep acc b).2.length ≤ acc.2.length + 1 := by
      unfold sxStep
      split
      · simp
      · split <;> simp
    simp only [List.length_cons]
    omega

theorem strs (x : Int) (h0 : 0 ≤ x) (h1 : x ≤ 255) : ∃ b : UInt8, (65 ≤ b.toNat ∧ b.toNat ≤ 90) ∧ (strOfNums [(65 + Int.tmod x 26) % 256]).data.toList = [b] ∧ (strOfNums [(97 + Int.tmod x 26) % 256]).data.toList = [b + 32] ∧ (strOfNums [(65 + Int.tmod x 26) % 256, (65 + Int.tmod x 26) % 256]).data.toList = [b, b] := by
  have e : Int.tmod x 26 = x % 26 := Int.tmod_eq_emod_of_nonneg h0
  rw [e]
  obtain ⟨y, hy⟩ : ∃ y : Nat, x % 26 = y := ⟨(x % 26).toNat, by omega⟩
  rw [hy]
  have hy2 : y < 26 := by omega
  clear hy e h0 h1
  have e1 : (65 + (y : Int)) % 256 = ((65 + y : Nat) : Int) := by omega
  have e2 : (97 + (y : Int)) % 256 = ((97 + y : Nat) : Int) := by omega
  rw [e1, e2]
  refine ⟨UInt8.ofNat (65 + y), by simp only [UInt8.toNat_ofNat']; omega, rfl, ?_, rfl⟩
  have : UInt8.ofNat (65 + y) + 32 = UInt8.ofNat (97 + y) := by
    apply UInt8.toNat_inj.1
    simp only [UInt8.toNat_add, UInt8.toNat_ofNat']
    show ((65 + y) % 256 + 32) % 256 = _
    omega
  rw [this]; rfl

theorem ends (s : ByteArray) (d : Nat) : ∀ (k i : Nat), s.size - i = d → i ≤ s.size → 1 ≤ i → s.size ≤ 100 → d < k → (∀ j : Nat, 1 ≤ j → (h : j < s.size) → 48 ≤ s[j].toNat ∧ s[j].toNat ≤ 54) → laws_FnTXSoundex.l1 k s i = some true := by
  induction d with
  | zero =>
    intro k i hd hi h1 hs hk ha
    obtain ⟨k, rfl⟩ : ∃ m, k = m + 1 := ⟨k - 1, by omega⟩
    simp only [laws_FnTXSoundex.l1]
    rw [if_neg (by omega)]
  | succ d ih =>
    intro k i hd hi h1 hs hk ha
    obtain ⟨k, rfl⟩ : ∃ m, k = m + 1 := ⟨k - 1, by omega⟩
    have hlt : i < s.size := by omega
    simp only [laws_FnTXSoundex.l1]
    have hb := ha i h1 hlt
    have e := (bt_at s (i : Int) (by simpa using hlt))
    simp only [Int.toNat_natCast] at e
    rw [if_pos (by omega), if_pos (by omega), ← e, if_neg (by omega), if_neg (by omega), wrap_id _ (by omega) (by omega)]
    have := ih k (i + 1) (by omega) (by omega) (by omega) hs (by omega) ha
    simpa using this

theorem size_dbl (u : List UInt8) : (dbl u).length = 2 * u.length := by
  induction u with
  | nil => rfl
  | cons b t ih => show ((dbl t).length + 1 + 1) = _; rw [ih]; simp only [List.length_cons]; omega

theorem joined (k : Nat) (x3 x4 x5 : ByteArray) (u : List UInt8) (h3 : x3.data.toList = u) (h4 : x4.data.toList = smallL u) (h5 : x5.data.toList = dbl u) (hc : Caps u) (hl : u.length ≤ 20) (hk : 100 ≤ k) : laws_FnTXSoundex.j1 k x3 x4 x5 = some true := by
  obtain ⟨k, rfl⟩ : ∃ m, k = m + 1 := ⟨k - 1, by omega⟩
  obtain ⟨k, rfl⟩ : ∃ m, k = m + 1 := ⟨k - 1, by omega⟩
  simp only [laws_FnTXSoundex.j1]
  have hlist : ∀ s : ByteArray, s.toList = s.data.toList := fun s => Lib.toList_data s
  rw [hlist, h3]
  cases u with
  | nil => rw [if_pos rfl]
  | cons c t =>
    rw [if_neg (by simp)]
    have n3 : x3.size = t.length + 1 := by show x3.data.toList.length = _; rw [h3]; rfl
    have n4 : x4.size = t.length + 1 := by show x4.data.toList.length = _; rw [h4]; simp [smallL]
    have n5 : x5.size = 2 * (t.length + 1) := by show x5.data.toList.length = _; rw [h5, size_dbl]; rfl
    simp only [List.length_cons] at hl
    generalize hR : (⟨(pad4 (sxFold (c :: t)).2).toArray⟩ : ByteArray) = R
    have f3 : impl_TXSoundex.f x3 = some R := by
      unfold impl_TXSoundex.f
      rw [h3, if_pos ⟨by omega, letters_caps _ hc⟩, upper_caps _ hc, hR]
    have f4 : impl_TXSoundex.f x4 = some R := by
      unfold impl_TXSoundex.f
      rw [h4, if_pos ⟨by omega, letters_small _ hc⟩, upper_small _ hc, hR]
    have f5 : impl_TXSoundex.f x5 = some R := by
      unfold impl_TXSoundex.f
      rw [h5, if_pos ⟨by omega, letters_caps _ (caps_dbl _ hc)⟩, upper_caps _ (caps_dbl _ hc), sx_dbl, hR]
    obtain ⟨r, er, hd, h3r⟩ := sx_head c t
    have hRl : R.data.toList = c :: r := by rw [← hR]; exact er
    have nR : R.size = r.length + 1 := by show R.data.toList.length = _; rw [hRl]; rfl
    have hmost : r.length + 1 ≤ 25 := by
      have h := sx_len (c :: t) (0, [])
      have h2 : (pad4 (sxFold (c :: t)).2).length = r.length + 1 := by rw [er]; rfl
      unfold pad4 at h2
      rw [List.length_append, List.length_replicate] at h2
      have h6 : (sxFold (c :: t)).2.length ≤ t.length + 1 := by simpa [sxFold] using h
      omega
    have b0 : bt R 0 = bt x3 0 := by
      have e1 : bt R 0 = (R.data.toList.getD 0 0).toNat := by
        have hlt : 0 < R.data.toList.length := by show 0 < R.size; omega
        rw [← bt_at R 0 (by show 0 < R.size; omega), List.getD_eq_getElem?_getD, List.getElem?_eq_getElem hlt]
        rfl
      have e2 : bt x3 0 = (x3.data.toList.getD 0 0).toNat := by
        have hlt : 0 < x3.data.toList.length := by show 0 < x3.size; omega
        rw [← bt_at x3 0 (by show 0 < x3.size; omega), List.getD_eq_getElem?_getD, List.getElem?_eq_getElem hlt]
        rfl
      rw [e1, e2, hRl, h3]; rfl
    rw [f3, f4, f5]
    simp only [Option.bind_some]
    rw [if_neg (by omega), if_pos (by omega), if_pos (by omega), if_pos b0, if_pos trivial]
    have eb : (R.toList != R.toList) = false := by simp
    rw [eb]
    simp only [laws_FnTXSoundex.j2]
    rw [if_neg (by simp)]
    refine ends R (R.size - 1) k 1 rfl (by omega) (by omega) (by omega) (by omega) fun j hj hlt => ?_
    have e : R.data.toList[j]'(by exact hlt) = R[j] := rfl
    rw [← e]
    simp only [hRl]
    obtain ⟨j, rfl⟩ : ∃ m, j = m + 1 := ⟨j - 1, by omega⟩
    rw [List.getElem_cons_succ]
    exact hd _ (List.getElem_mem _)

theorem loop (l : List Int) (hw : ∀ i, 0 ≤ rd l i ∧ rd l i ≤ 255) (d : Nat) : ∀ (k : Nat) (x3 x4 x5 : ByteArray) (u : List UInt8), x3.data.toList = u → x4.data.toList = smallL u → x5.data.toList = dbl u → Caps u → u.length ≤ 20 → 20 - u.length = d → d + 101 ≤ k →
    laws_FnTXSoundex.l0 k l x3 x4 x5 u.length = some true := by
  induction d with
  | zero =>
    intro k x3 x4 x5 u h3 h4 h5 hc hl hd hk
    obtain ⟨k, rfl⟩ : ∃ m, k = m + 1 := ⟨k - 1, by omega⟩
    have hj := joined k x3 x4 x5 u h3 h4 h5 hc hl (by omega)
    simp only [laws_FnTXSoundex.l0]
    rw [if_neg (show ¬ (u.length : Int) < 20 by omega), hj]
    split <;> rfl
  | succ d ih =>
    intro k x3 x4 x5 u h3 h4 h5 hc hl hd hk
    obtain ⟨k, rfl⟩ : ∃ m, k = m + 1 := ⟨k - 1, by omega⟩
    have hj := joined k x3 x4 x5 u h3 h4 h5 hc hl (by omega)
    simp only [laws_FnTXSoundex.l0]
    by_cases hlt : (u.length : Int) < (l.length : Int)
    · rw [if_pos hlt, if_pos (by omega), if_pos (by omega)]
      simp only [Option.bind_some]
      obtain ⟨b, hb, s3, s4, s5⟩ := strs (rd l u.length) (hw _).1 (hw _).2
      have n3 : x3.size = u.length := by show x3.data.toList.length = _; rw [h3]
      have n4 : x4.size = u.length := by show x4.data.toList.length = _; rw [h4]; simp [smallL]
      have n5 : x5.size = 2 * u.length := by show x5.data.toList.length = _; rw [h5, size_dbl]
      have m3 : (strOfNums [(65 + Int.tmod (rd l u.length) 26) % 256]).size = 1 := rfl
      have m4 : (strOfNums [(97 + Int.tmod (rd l u.length) 26) % 256]).size = 1 := rfl
      have m5 : (strOfNums [(65 + Int.tmod (rd l u.length) 26) % 256, (65 + Int.tmod (rd l u.length) 26) % 256]).size = 2 := rfl
      rw [m3, m4, m5, if_pos (by omega), if_pos (by omega), if_pos (by omega), wrap_id _ (by omega) (by omega)]
      have := ih k (x3 ++ strOfNums [(65 + Int.tmod (rd l u.length) 26) % 256]) (x4 ++ strOfNums [(97 + Int.tmod (rd l u.length) 26) % 256]) (x5 ++ strOfNums [(65 + Int.tmod (rd l u.length) 26) % 256, (65 + Int.tmod (rd l u.length) 26) % 256]) (u ++ [b])
        (by rw [ByteArray.data_append, Array.toList_append, h3, s3]) (by rw [ByteArray.data_append, Array.toList_append, h4, s4]; simp [smallL]) (by rw [ByteArray.data_append, Array.toList_append, h5, s5]; simp [dbl])
        (by intro x hx; rcases List.mem_append.1 hx with hx | hx; exact hc x hx; obtain rfl := List.mem_singleton.1 hx; exact hb) (by simp; omega) (by simp; omega) (by omega)
      simpa using this
    · rw [if_neg hlt, hj]

theorem FnTXSoundex : laws_FnTXSoundex.Pure := by
  intro l hl hl2 hwf
  by_cases hbig : (l.length : Int) > 2147483647
  · exact ⟨0, by unfold laws_FnTXSoundex.f; rw [if_pos hbig]⟩
  have hw : ∀ i, 0 ≤ rd l i ∧ rd l i ≤ 255 := by
    intro i
    unfold rd
    rcases Nat.lt_or_ge i.toNat l.length with h | h
    · rw [List.getD_eq_getElem?_getD, List.getElem?_eq_getElem h]
      exact bounds_u8 (hwf _ (List.getElem_mem h))
    · rw [List.getD_eq_getElem?_getD, List.getElem?_eq_none h]; decide
  refine ⟨121, ?_⟩
  unfold laws_FnTXSoundex.f
  rw [if_neg hbig]
  exact loop l hw 20 121 ⟨#[]⟩ ⟨#[]⟩ ⟨#[]⟩ [] rfl rfl rfl (by intro b hb; cases hb) (by simp) rfl (by omega)
end Go.Proofs.YthicaehcoingeaaDoor.Pure
