/-
  The characters of the law's texts and their bytes: what utf8.DecodeRuneInString reads at each place. Condition: the ten characters of the law.
-/
import Derived.Shelf.Unicode.DecodeSlow
import Derived.Laws.Cover4
namespace Go.Proofs.YthicaehcoingeaaDoor.PLK
open Go.Lib
set_option linter.unusedVariables false
/-- the characters that the law's texts have -/
def okR (c : Int) : Bool := c == 97 || c == 65 || c == 98 || c == 37 || c == 95 || c == 92 || c == 66 || c == 233 || c == 29483 || c == 120
def bt (c : Int) : List UInt8 := (Utf8.encode c).data.toList
def bts (l : List Int) : List UInt8 := l.flatMap bt
theorem okR_cases {c : Int} (h : okR c = true) : c = 97 ∨ c = 65 ∨ c = 98 ∨ c = 37 ∨ c = 95 ∨ c = 92 ∨ c = 66 ∨ c = 233 ∨ c = 29483 ∨ c = 120 := by
  unfold okR at h
  simp only [Bool.or_eq_true, beq_iff_eq] at h
  omega
theorem bt_vals : bt 97 = [97] ∧ bt 65 = [65] ∧ bt 98 = [98] ∧ bt 37 = [37] ∧ bt 95 = [95] ∧ bt 92 = [92] ∧ bt 66 = [66] ∧ bt 233 = [195, 169] ∧ bt 29483 = [231, 140, 171] ∧ bt 120 = [120] := by decide +kernel
theorem of_list (s : ByteArray) (l : List UInt8) (h : s.data.toList = l) : s = ⟨⟨l⟩⟩ := by
  cases s with | mk d => cases d with | mk t => simp at h; subst h; rfl
theorem dec_one (b : UInt8) (r : List UInt8) (hb : b.toNat < 128) : decodeGo ⟨⟨b :: r⟩⟩ = (b.toNat, 1) := by
  unfold decodeGo
  rw [if_neg (by show ¬ (b :: r).length = 0; simp)]
  unfold Utf8.decode
  simp [ByteArray.get!, hb]
theorem dec_two (r : List UInt8) : decodeGo ⟨⟨195 :: 169 :: r⟩⟩ = (233, 2) := by
  unfold decodeGo
  rw [if_neg (by show ¬ (195 :: 169 :: r).length = 0; simp)]
  unfold Utf8.decode
  simp [ByteArray.get!, ByteArray.size]
theorem dec_three (r : List UInt8) : decodeGo ⟨⟨231 :: 140 :: 171 :: r⟩⟩ = (29483, 3) := by
  unfold decodeGo
  rw [if_neg (by show ¬ (231 :: 140 :: 171 :: r).length = 0; simp)]
  unfold Utf8.decode
  simp [ByteArray.get!, ByteArray.size]
  decide
theorem dec_ok (c : Int) (h : okR c = true) (s : ByteArray) (r : List UInt8) (hs : s.data.toList = bt c ++ r) : ((decodeGo s).1 : Int) = c ∧ (decodeGo s).2 = (bt c).length := by
  obtain rfl := of_list s _ hs
  obtain ⟨h1, h2, h3, h4, h5, h6, h7, h8, h9, h10⟩ := bt_vals
  obtain rfl | rfl | rfl | rfl | rfl | rfl | rfl | rfl | rfl | rfl := okR_cases h
  · rw [h1]; rw [show ([97] ++ r : List UInt8) = 97 :: r from rfl, dec_one _ _ (by decide)]; exact ⟨rfl, rfl⟩
  · rw [h2]; rw [show ([65] ++ r : List UInt8) = 65 :: r from rfl, dec_one _ _ (by decide)]; exact ⟨rfl, rfl⟩
  · rw [h3]; rw [show ([98] ++ r : List UInt8) = 98 :: r from rfl, dec_one _ _ (by decide)]; exact ⟨rfl, rfl⟩
  · rw [h4]; rw [show ([37] ++ r : List UInt8) = 37 :: r from rfl, dec_one _ _ (by decide)]; exact ⟨rfl, rfl⟩
  · rw [h5]; rw [show ([95] ++ r : List UInt8) = 95 :: r from rfl, dec_one _ _ (by decide)]; exact ⟨rfl, rfl⟩
  · rw [h6]; rw [show ([92] ++ r : List UInt8) = 92 :: r from rfl, dec_one _ _ (by decide)]; exact ⟨rfl, rfl⟩
  · rw [h7]; rw [show ([66] ++ r : List UInt8) = 66 :: r from rfl, dec_one _ _ (by decide)]; exact ⟨rfl, rfl⟩
  · rw [h8]; rw [show ([195, 169] ++ r : List UInt8) = 195 :: 169 :: r from rfl, dec_two]; exact ⟨rfl, rfl⟩
  · rw [h9]; rw [show ([231, 140, 171] ++ r : List UInt8) = 231 :: 140 :: 171 :: r from rfl, dec_three]; exact ⟨rfl, rfl⟩
  · rw [h10]; rw [show ([120] ++ r : List UInt8) = 120 :: r from rfl, dec_one _ _ (by decide)]; exact ⟨rfl, rfl⟩
theorem bt_len (c : Int) (h : okR c = true) : 1 ≤ (bt c).length ∧ (bt c).length ≤ 3 := by
  obtain ⟨h1, h2, h3, h4, h5, h6, h7, h8, h9, h10⟩ := bt_vals
  obtain rfl | rfl | rfl | rfl | rfl | rfl | rfl | rfl | rfl | rfl := okR_cases h <;> simp [*]
theorem runesBytes_list (l : List Int) : (runesBytes l).data.toList = bts l := by
  have h : ∀ (l : List Int) (b : ByteArray), (l.foldl (fun r n => r ++ Utf8.encode n) b).data.toList = b.data.toList ++ bts l := by
    intro l
    induction l with
    | nil => intro b; simp [bts]
    | cons c t ih =>
      intro b
      rw [List.foldl_cons, ih]
      simp [bts, bt, ByteArray.data_append]
  have := h l ByteArray.empty
  rw [runesBytes, this]
  rfl
/-- the place of the k-th character in the text -/
def off (l : List Int) (k : Nat) : Nat := (bts (l.take k)).length
theorem bts_app (a b : List Int) : bts (a ++ b) = bts a ++ bts b := by unfold bts; rw [List.flatMap_append]
theorem off_zero (l : List Int) : off l 0 = 0 := rfl
theorem off_all (l : List Int) : off l l.length = (runesBytes l).size := by
  have : (runesBytes l).size = (runesBytes l).data.toList.length := rfl
  rw [this, runesBytes_list, off, List.take_length]
theorem off_succ (l : List Int) (k : Nat) (c : Int) (h : l[k]? = some c) : off l (k + 1) = off l k + (bt c).length := by
  unfold off
  rw [List.take_add_one, h, bts_app, List.length_append]
  simp [bts]
theorem off_mono (l : List Int) (hl : l.all okR = true) (k : Nat) : ∀ n, k + n ≤ l.length → off l k + n ≤ off l (k + n)
  | 0, _ => Nat.le_refl _
  | n + 1, h => by
    have ih := off_mono l hl k n (by omega)
    have hk : k + n < l.length := by omega
    have := off_succ l (k + n) l[k + n] (List.getElem?_eq_getElem hk)
    have h1 := (bt_len l[k + n] (List.all_eq_true.1 hl _ (List.getElem_mem hk))).1
    rw [show k + (n + 1) = k + n + 1 by omega, this]
    omega
theorem off_most (l : List Int) (hl : l.all okR = true) : ∀ n, n ≤ l.length → off l n ≤ 3 * n
  | 0, _ => Nat.le_refl _
  | n + 1, h => by
    have ih := off_most l hl n (by omega)
    have hk : n < l.length := by omega
    have := off_succ l n l[n] (List.getElem?_eq_getElem hk)
    have h1 := (bt_len l[n] (List.all_eq_true.1 hl _ (List.getElem_mem hk))).2
    rw [this]
    omega
theorem off_lt (l : List Int) (hl : l.all okR = true) (k : Nat) (h : k < l.length) : off l k < (runesBytes l).size := by
  have := off_mono l hl k (l.length - k) (by omega)
  rw [show k + (l.length - k) = l.length by omega, off_all] at this
  omega
theorem off_inj (l : List Int) (hl : l.all okR = true) (k : Nat) (h : k ≤ l.length) (e : off l k = (runesBytes l).size) : k = l.length := by
  rcases Nat.eq_or_lt_of_le h with h1 | h1
  · exact h1
  · have := off_lt l hl k h1
    omega
theorem dec_at (l : List Int) (hl : l.all okR = true) (k : Nat) (c : Int) (h : l[k]? = some c) :
    ((decodeGo ((runesBytes l).extract (off l k) (runesBytes l).size)).1 : Int) = c ∧ (decodeGo ((runesBytes l).extract (off l k) (runesBytes l).size)).2 = off l (k + 1) - off l k := by
  obtain ⟨hk, rfl⟩ := List.getElem?_eq_some_iff.1 h
  have hs : ((runesBytes l).extract (off l k) (runesBytes l).size).data.toList = bt l[k] ++ bts (l.drop (k + 1)) := by
    have e : ((runesBytes l).extract (off l k) (runesBytes l).size).data.toList = ((runesBytes l).data.toList.take (runesBytes l).size).drop (off l k) := by
      simp
      rw [List.drop_take]
    rw [e, List.take_of_length_le (show (runesBytes l).data.toList.length ≤ (runesBytes l).size from Nat.le_refl _), runesBytes_list]
    have e2 : bts l = bts (l.take k) ++ bts (l.drop k) := by rw [← bts_app, List.take_append_drop]
    rw [e2, off, List.drop_left, List.drop_eq_getElem_cons hk]
    rfl
  obtain ⟨h1, h2⟩ := dec_ok l[k] (List.all_eq_true.1 hl _ (List.getElem_mem hk)) _ _ hs
  refine ⟨h1, ?_⟩
  rw [h2, off_succ l k l[k] h]
  omega
end Go.Proofs.YthicaehcoingeaaDoor.PLK
