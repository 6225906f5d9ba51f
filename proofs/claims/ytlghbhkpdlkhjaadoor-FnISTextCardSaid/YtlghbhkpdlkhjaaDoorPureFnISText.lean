/-
  The text of a set has runs of three and more numbers as ranges: the plain law. No condition beyond the law's own guards.
-/
import Derived.Test.YtlghbhkpdlkhjaaDoorPIT2
import Derived.OpenShut
import Derived.WideShapes
import Derived.Lib.ItoaMem
namespace Go.Proofs.YtlghbhkpdlkhjaaDoor.Pure
open Go.RowKit Go.Proofs.YtlghbhkpdlkhjaaDoor.PIT Go.Proofs.YtlghbhkpdlkhjaaDoorW.PrintWords Go.Proofs.YtlghbhkpdlkhjaaDoorW.PrintLast
open Go.Proofs.YtlghbhkpdlkhjaaDoor.PIS (St step_eq sep rg stOf stOf_take st0 textOf Rise sep_len rg_len)
set_option linter.unusedVariables false
namespace T
theorem rd_get (l : List Int) (i : Nat) (h : i < l.length) : rd l (i : Int) = l[i] := by
  unfold rd; rw [Int.toNat_natCast, List.getD_eq_getElem?_getD, List.getElem?_eq_getElem h]; rfl
theorem w64 (i : Nat) (h : i ≤ 100000) : wrap64 ((i : Int) + 1) = ((i + 1 : Nat) : Int) := by unfold wrap64; omega
/-- what spec.ISPut does with what is left of the list -/
def gp (x : Int) : List Int → Bool → List Int
  | [], d => if d then [] else [x]
  | z :: t, d => if d = false ∧ z ≥ x then [x] ++ (if z = x then [] else [z]) ++ gp x t true else (if z = x then [] else [z]) ++ gp x t d
theorem gp_cons (x z : Int) (t : List Int) (d : Bool) : gp x (z :: t) d = if d = false ∧ z ≥ x then [x] ++ (if z = x then [] else [z]) ++ gp x t true else (if z = x then [] else [z]) ++ gp x t d := rfl
theorem gp_true (x : Int) : ∀ l : List Int, gp x l true = l.filter (fun y => decide (y ≠ x))
  | [] => rfl
  | z :: t => by
    unfold gp
    rw [if_neg (by simp), gp_true x t]
    by_cases h : z = x
    · rw [if_pos h, List.filter_cons_of_neg (by simpa using h)]; rfl
    · rw [if_neg h, List.filter_cons_of_pos (by simpa using h)]; rfl
theorem gp_spec (x : Int) : ∀ l : List Int, l.Pairwise (· < ·) → (gp x l false).Pairwise (· < ·) ∧ (∀ y, y ∈ gp x l false ↔ y = x ∨ y ∈ l)
  | [], _ => by simp [gp]
  | z :: t, hs => by
    obtain ⟨h1, h2⟩ := List.pairwise_cons.1 hs
    obtain ⟨i1, i2⟩ := gp_spec x t h2
    unfold gp
    by_cases hz : z ≥ x
    · rw [if_pos ⟨rfl, hz⟩, gp_true]
      have hf : (t.filter fun y => decide (y ≠ x)).Pairwise (· < ·) := h2.sublist List.filter_sublist
      have hm : ∀ y, y ∈ (t.filter fun y => decide (y ≠ x)) → y ∈ t := fun y hy => (List.mem_filter.1 hy).1
      by_cases he : z = x
      · subst he
        rw [if_pos rfl]
        refine ⟨List.pairwise_cons.2 ⟨fun y hy => h1 y (hm y hy), hf⟩, fun y => ?_⟩
        simp
        constructor
        · rintro (h | ⟨h, _⟩)
          · exact .inl h
          · exact .inr h
        · rintro (h | h)
          · exact .inl h
          · have := h1 y h
            exact .inr ⟨h, by omega⟩
      · rw [if_neg he]
        refine ⟨List.pairwise_cons.2 ⟨fun y hy => ?_, List.pairwise_cons.2 ⟨fun y hy => h1 y (hm y hy), hf⟩⟩, fun y => ?_⟩
        · rcases List.mem_cons.1 hy with rfl | hy
          · omega
          · have := h1 y (hm y hy); omega
        · simp
          constructor
          · rintro (h | h | ⟨h, _⟩)
            · exact .inl h
            · exact .inr (.inl h)
            · exact .inr (.inr h)
          · rintro (h | h | h)
            · exact .inl h
            · exact .inr (.inl h)
            · have := h1 y h
              exact .inr (.inr ⟨h, by omega⟩)
    · rw [if_neg (fun h => hz h.2), if_neg (by omega)]
      refine ⟨List.pairwise_cons.2 ⟨fun y hy => ?_, i1⟩, fun y => ?_⟩
      · rcases (i2 y).1 hy with rfl | hy
        · omega
        · exact h1 y hy
      · show y ∈ z :: gp x t false ↔ _
        rw [List.mem_cons, i2, List.mem_cons]
        constructor
        · rintro (h | h | h)
          · exact .inr (.inl h)
          · exact .inl h
          · exact .inr (.inr h)
        · rintro (h | h | h)
          · exact .inr (.inl h)
          · exact .inl h
          · exact .inr (.inr h)
theorem gp_len (x : Int) : ∀ (l : List Int) (d : Bool), (gp x l d).length ≤ l.length + 1
  | [], d => by cases d <;> simp [gp]
  | z :: t, d => by
    unfold gp
    have e : (if z = x then ([] : List Int) else [z]).length ≤ 1 := by split <;> simp
    split
    · rw [gp_true]
      have := List.length_filter_le (fun y => decide (y ≠ x)) t
      simp only [List.length_append, List.length_cons, List.length_nil]
      omega
    · have := gp_len x t d
      simp only [List.length_append, List.length_cons]
      omega
theorem put_go (l : List Int) (x : Int) (hl : l.length ≤ 1000) : ∀ (d i K : Nat) (out : List Int) (f : Bool), i + d = l.length → 2 * d + 2 ≤ K → out.length ≤ 2 * i →
    spec_ISPut.l0 K l x out f (i : Int) = some (out ++ gp x (l.drop i) f) := by
  intro d
  induction d with
  | zero =>
    intro i K out f hi hK ho
    obtain ⟨K, rfl⟩ : ∃ z, K = z + 1 := ⟨K - 1, by omega⟩
    rw [spec_ISPut.l0, if_neg (by omega), List.drop_eq_nil_of_le (by omega)]
    cases f
    · rw [if_neg (by decide), if_pos (by omega)]; rfl
    · rw [if_pos rfl]; simp [gp]
  | succ d ih =>
    intro i K out f hi hK ho
    obtain ⟨K, rfl⟩ : ∃ z, K = z + 2 := ⟨K - 2, by omega⟩
    have hlt : i < l.length := by omega
    rw [spec_ISPut.l0, if_pos (by omega), List.drop_eq_getElem_cons hlt]
    have hw := w64 i (by omega)
    cases f
    · rw [if_neg (by decide), if_pos (by omega), rd_get l i hlt, spec_ISPut.j1]
      by_cases hz : l[i] ≥ x
      · rw [if_pos (decide_eq_true hz), if_pos (by omega), Option.bind_some, if_pos (by omega), if_pos (by omega), rd_get l i hlt]
        by_cases he : l[i] = x
        · rw [if_pos he, hw, ih (i + 1) K _ true (by omega) (by omega) (by simp; omega)]
          rw [gp_cons, if_pos ⟨rfl, hz⟩, if_pos he]
          simp
        · rw [if_neg he, if_pos (by simp; omega), hw, ih (i + 1) K _ true (by omega) (by omega) (by simp; omega)]
          rw [gp_cons, if_pos ⟨rfl, hz⟩, if_neg he]
          simp
      · rw [if_neg (by simpa using hz), if_pos (by omega), if_pos (by omega), rd_get l i hlt]
        have he : ¬ l[i] = x := by omega
        rw [if_neg he, if_pos (by omega), hw, ih (i + 1) K _ false (by omega) (by omega) (by simp; omega)]
        rw [gp_cons, if_neg (fun h => hz h.2), if_neg he]
        simp
    · rw [if_pos rfl, spec_ISPut.j1, if_neg (by decide), if_pos (by omega), if_pos (by omega), rd_get l i hlt]
      by_cases he : l[i] = x
      · rw [if_pos he, hw, ih (i + 1) K _ true (by omega) (by omega) (by omega)]
        rw [gp_cons, if_neg (by simp), if_pos he]
        rfl
      · rw [if_neg he, if_pos (by omega), hw, ih (i + 1) K _ true (by omega) (by omega) (by simp; omega)]
        rw [gp_cons, if_neg (by simp), if_neg he]
        simp
theorem put_ok (l : List Int) (x : Int) (K : Nat) (hl : l.length ≤ 1000) (hK : 2 * l.length + 2 ≤ K) : spec_ISPut.f K l x = some (gp x l false) := by
  unfold spec_ISPut.f
  have := put_go l x hl l.length 0 K [] false (by omega) hK (by simp)
  rw [List.drop_zero, List.nil_append] at this
  exact this
theorem val_ok (x : Int) : 0 ≤ Int.tmod (wrap64 ((Int.tmod x 201) + 201)) 201 ∧ Int.tmod (wrap64 ((Int.tmod x 201) + 201)) 201 ≤ 200 := by
  have h1 : -201 < Int.tmod x 201 := by
    have := Int.lt_tmod_of_pos x (show (0 : Int) < 201 by decide)
    omega
  have h2 : Int.tmod x 201 < 201 := Int.tmod_lt_of_pos x (by decide)
  have hw : wrap64 ((Int.tmod x 201) + 201) = Int.tmod x 201 + 201 := by unfold wrap64; omega
  rw [hw, Int.tmod_eq_emod_of_nonneg (by omega)]
  omega
/-- a set of the law: rising, from 0 to 200, at most so many -/
def Good (n : Nat) (l : List Int) : Prop := l.Pairwise (· < ·) ∧ (∀ x ∈ l, 0 ≤ x ∧ x ≤ 200) ∧ l.length ≤ n
theorem good_put {n : Nat} {l : List Int} {x : Int} (h : Good n l) (h0 : 0 ≤ x) (h1 : x ≤ 200) : Good (n + 1) (gp x l false) := by
  obtain ⟨a, b, c⟩ := h
  obtain ⟨p1, p2⟩ := gp_spec x l a
  refine ⟨p1, fun y hy => ?_, by have := gp_len x l false; omega⟩
  rcases (p2 y).1 hy with rfl | hy
  · exact ⟨h0, h1⟩
  · exact b y hy
theorem set_go (l : List Int) : ∀ (d i K : Nat) (acc : List Int), 40 - i = d → i ≤ 40 → 100 + d ≤ K → Good i acc → ∃ r, laws_isSet.l0 K l acc (i : Int) = some r ∧ Good 40 r := by
  intro d
  induction d with
  | zero =>
    intro i K acc hd hi hK hg
    obtain ⟨K, rfl⟩ : ∃ z, K = z + 1 := ⟨K - 1, by omega⟩
    obtain rfl : i = 40 := by omega
    refine ⟨acc, ?_, hg⟩
    rw [laws_isSet.l0]
    by_cases h : ((40 : Nat) : Int) < (l.length : Int)
    · rw [if_pos h, if_neg (by decide)]
    · rw [if_neg h]
  | succ d ih =>
    intro i K acc hd hi hK hg
    obtain ⟨K, rfl⟩ : ∃ z, K = z + 1 := ⟨K - 1, by omega⟩
    rw [laws_isSet.l0]
    by_cases h : (i : Int) < (l.length : Int)
    · have hlen := hg.2.2
      rw [if_pos h, if_pos (by omega), if_pos (by omega), put_ok acc _ K (by omega) (by omega), Option.bind_some, w64 i (by omega)]
      exact ih (i + 1) K _ (by omega) (by omega) (by omega) (good_put hg (val_ok _).1 (val_ok _).2)
    · rw [if_neg h]
      exact ⟨acc, rfl, hg.1, hg.2.1, by have := hg.2.2; omega⟩

def B (l : List UInt8) : ByteArray := ⟨l.toArray⟩
theorem B_app (a b : List UInt8) : B a ++ B b = B (a ++ b) := by
  apply Go.WideShapes.bytes_inj
  simp [B, ByteArray.data_append]
theorem B_size (l : List UInt8) : (B l).size = l.length := by show l.toArray.size = _; simp
theorem B_list (l : List UInt8) : (B l).toList = l := by rw [ByteArray.toList_eq]; rfl
theorem dec_fuel : ∀ (K n : Nat), 1 ≤ K → n < 10 ^ K → n ≤ 1000 → spec_ISDecimal.f K (n : Int) = some (B (Lib.decDigits n)) := by
  intro K
  induction K with
  | zero => intro n h; omega
  | succ K ih =>
    intro n _ hn h1
    rw [spec_ISDecimal.f, if_neg (by omega)]
    by_cases h : n < 10
    · rw [if_pos (by omega), Lib.decDigits, dif_pos h]
      congr 1
      apply Go.WideShapes.bytes_inj
      rw [strOfNums_data]
      have hw : wrap64 (48 + (n : Int)) % 256 = ((48 + n : Nat) : Int) := by unfold wrap64; omega
      rw [hw]
      simp only [List.map_cons, List.map_nil, Int.toNat_natCast]
      rfl
    · have hK : 1 ≤ K := by
        rcases Nat.eq_zero_or_pos K with rfl | hp
        · simp at hn; omega
        · exact hp
      have hd : wrap64 (Int.tdiv (n : Int) 10) = ((n / 10 : Nat) : Int) := by
        have : Int.tdiv (n : Int) 10 = ((n / 10 : Nat) : Int) := rfl
        rw [this]; unfold wrap64; omega
      have hm : Int.tmod (n : Int) 10 = ((n % 10 : Nat) : Int) := rfl
      have hlt : n / 10 < 10 ^ K := by rw [Nat.pow_succ] at hn; omega
      rw [if_neg (by omega), hd, hm, ih (n / 10) hK hlt (by omega), Option.bind_some, Option.bind_some]
      have hw : wrap64 (48 + ((n % 10 : Nat) : Int)) % 256 = ((48 + n % 10 : Nat) : Int) := by unfold wrap64; omega
      have hl : (Lib.decDigits (n / 10)).length ≤ 21 := by
        have := Lib.itoa_length_le ((n / 10 : Nat) : Int) (by omega) (by omega)
        rw [Lib.itoa_nonneg] at this; exact this
      rw [hw, B_size, strOfNums_size, if_pos (by simp; omega)]
      conv => rhs; rw [Lib.decDigits, dif_neg h]
      rw [← B_app]
      congr 2
theorem dec_ok (K : Nat) (x : Int) (hK : 4 ≤ K) (h0 : 0 ≤ x) (h1 : x ≤ 1000) : spec_ISDecimal.f K x = some (B (Lib.itoa x)) := by
  obtain ⟨n, rfl⟩ : ∃ n : Nat, x = n := ⟨x.toNat, by omega⟩
  rw [Lib.itoa_nonneg]
  refine dec_fuel K n (by omega) ?_ (by omega)
  have : 10 ^ 4 ≤ 10 ^ K := Nat.pow_le_pow_right (by decide) hK
  omega
theorem itoa_ne (x : Int) (h0 : 0 ≤ x) (h1 : x ≤ 1000) : Lib.itoa x ≠ [] := by
  obtain ⟨n, rfl⟩ : ∃ n : Nat, x = n := ⟨x.toNat, by omega⟩
  rw [Lib.itoa_nonneg, Lib.decDigits]
  split <;> simp
theorem itoa_len (x : Int) (h0 : 0 ≤ x) (h1 : x ≤ 1000) : (Lib.itoa x).length ≤ 21 := Lib.itoa_length_le x (by omega) (by omega)
/-- the reference's comma -/
def cm (out : List UInt8) : List UInt8 := if out = [] then [] else out ++ [44]
def flush (x : St) : List UInt8 := if x.2.1 ≠ -1 then sep x.1 ++ rg x.2.1 x.2.2 else x.1
theorem cm_ne {a : List UInt8} (h : a ≠ []) : cm a = a ++ [44] := by unfold cm; rw [if_neg h]
theorem flush_step (x : St) (y : Int) (h : x.2.1 = -1 ∨ x.2.2 ≠ y - 1)   : PIS.step x y = (flush x, y, y) := by
  obtain ⟨bs, rs, re⟩ := x
  rw [step_eq]
  unfold flush
  simp only at h ⊢
  by_cases h1 : rs = -1
  · rw [if_neg (fun h => h.1 h1), if_neg (fun h => h h1), if_neg (fun h => h h1)]
  · rw [if_neg (fun e => h.elim (fun e1 => h1 e1) (fun e1 => e1 e.2)), if_pos h1, if_pos h1]
theorem prog_run (l : List Int) (hb : ∀ x ∈ l, 0 ≤ x ∧ x ≤ 1000) (i : Nat) (h0 : (hi : i < l.length) → (stOf (l.take i)).2.1 = -1 ∨ (stOf (l.take i)).2.2 ≠ l[i] - 1) : ∀ (d : Nat) (he : i + d < l.length), (∀ j (h : j + 1 < l.length), i ≤ j → j < i + d → l[j + 1] = l[j] + 1) →
    stOf (l.take (i + d + 1)) = (flush (stOf (l.take i)), l[i], l[i + d])
  | 0, he, hr => by
    rw [stOf_take l i (by omega), flush_step _ _ (h0 (by omega))]
    rfl
  | d + 1, he, hr => by
    have ih := prog_run l hb i h0 d (by omega) (fun j h h1 h2 => hr j h h1 (by omega))
    rw [show i + (d + 1) + 1 = (i + d + 1) + 1 by omega, stOf_take l (i + d + 1) (by omega), ih, step_eq]
    have h1 := hr (i + d) (by omega) (by omega) (by omega)
    have h2 := hb l[i] (List.getElem_mem _)
    rw [if_pos ⟨by omega, by omega⟩]
    rfl
theorem scan (l : List Int) (hb : ∀ x ∈ l, 0 ≤ x ∧ x ≤ 1000) (hl : l.length ≤ 200) (x3 : ByteArray) (i e : Nat) (hE : e < l.length) (hend : ∀ h : e + 1 < l.length, l[e + 1] ≠ l[e] + 1) : ∀ (d x5 K : Nat), x5 + d = e → (∀ j (h : j + 1 < l.length), x5 ≤ j → j < e → l[j + 1] = l[j] + 1) →
    spec_ISText.l1 (K + d + 1) l x3 i x5 = spec_ISText.j2 K l x3 i e := by
  intro d
  induction d with
  | zero =>
    intro x5 K he hr
    obtain rfl : x5 = e := by omega
    rw [spec_ISText.l1, w64 x5 (by omega)]
    by_cases h : x5 + 1 < l.length
    · rw [if_pos (by omega), if_pos (by omega), if_pos (by omega), if_pos (by omega), rd_get l (x5 + 1) h, rd_get l x5 hE]
      have h2 := hb l[x5] (List.getElem_mem _)
      have hw : wrap64 (l[x5] + 1) = l[x5] + 1 := by unfold wrap64; omega
      rw [hw, if_neg (hend h)]
    · rw [if_neg (by omega)]
  | succ d ih =>
    intro x5 K he hr
    have h : x5 + 1 < l.length := by omega
    rw [show K + (d + 1) + 1 = (K + d + 1) + 1 by omega, spec_ISText.l1, w64 x5 (by omega), if_pos (by omega), if_pos (by omega), if_pos (by omega), if_pos (by omega), rd_get l (x5 + 1) h, rd_get l x5 (by omega)]
    have h2 := hb l[x5] (List.getElem_mem _)
    have hw : wrap64 (l[x5] + 1) = l[x5] + 1 := by unfold wrap64; omega
    rw [hw, if_pos (hr x5 h (by omega) (by omega))]
    exact ih (x5 + 1) K (by omega) (fun j h h1 h2 => hr j h (by omega) h2)
theorem one (l : List Int) (hb : ∀ x ∈ l, 0 ≤ x ∧ x ≤ 1000) (hl : l.length ≤ 200) (out : List UInt8) (ho : out.length ≤ 100000) (i k : Nat) (hik : i ≤ k) (hk : k < l.length) (K : Nat) (hK : 4 ≤ K) :
    spec_ISText.j3 (K + 2) l (B out) i k = spec_ISText.l0 K l (B (cm out ++ Lib.itoa l[i] ++ (if k = i then [] else [45] ++ Lib.itoa l[k]))) ((k + 1 : Nat) : Int) := by
  have hi : i < l.length := by omega
  have b1 := hb l[i] (List.getElem_mem _)
  have b2 := hb l[k] (List.getElem_mem _)
  have n1 := itoa_len l[i] b1.1 b1.2
  have n2 := itoa_len l[k] b2.1 b2.2
  have hc : (cm out).length ≤ 100001 := by unfold cm; split <;> simp; omega
  have key : spec_ISText.j4 (K + 1) l (B (cm out)) i k = spec_ISText.l0 K l (B (cm out ++ Lib.itoa l[i] ++ (if k = i then [] else [45] ++ Lib.itoa l[k]))) ((k + 1 : Nat) : Int) := by
    rw [spec_ISText.j4, if_pos (by omega), if_pos (by omega), rd_get l i hi, dec_ok K _ hK b1.1 b1.2, Option.bind_some, B_size, B_size, if_pos (by omega), w64 k (by omega)]
    by_cases e : k = i
    · rw [if_neg (by omega), if_pos e, B_app, List.append_nil]
    · rw [if_pos (by omega), if_pos (by omega), if_pos (by omega), rd_get l k hk, dec_ok K _ hK b2.1 b2.2, Option.bind_some, B_size, if_pos (by omega), if_neg e, show (⟨#[45]⟩ : ByteArray) = B [45] from rfl, B_app, B_app, B_app, B_size, B_size, if_pos (by simp only [List.length_append, List.length_cons, List.length_nil]; omega)]
  rw [spec_ISText.j3, B_list]
  by_cases h : out = []
  · rw [if_pos h]
    have : cm out = out := by unfold cm; rw [if_pos h, h]
    rw [this] at key
    rw [this]
    exact key
  · rw [if_neg h, B_size, if_pos (by omega), show (⟨#[44]⟩ : ByteArray) = B [44] from rfl, B_app]
    have : cm out = out ++ [44] := by unfold cm; rw [if_neg h]
    rw [this] at key
    rw [this]
    exact key
/-- one whole run -/
theorem run_spec (l : List Int) (hb : ∀ x ∈ l, 0 ≤ x ∧ x ≤ 1000) (hl : l.length ≤ 200) (out : List UInt8) (ho : out.length ≤ 90000) (i d : Nat) (hE : i + d < l.length) (hr : ∀ j (h : j + 1 < l.length), i ≤ j → j < i + d → l[j + 1] = l[j] + 1) (hend : ∀ h : i + d + 1 < l.length, l[i + d + 1] ≠ l[i + d] + 1) (K : Nat) (hK : 4 ≤ K) :
    ∃ K2, K2 + d + 10 ≥ K + d + 5 ∧ spec_ISText.l0 (K + d + 10) l (B out) (i : Int) = spec_ISText.l0 K2 l (B (cm out ++ rg l[i] l[i + d])) ((i + d + 1 : Nat) : Int) := by
  have b1 := hb l[i] (List.getElem_mem _)
  have hl0 : ∀ (out : List UInt8) (x e K : Nat), x + (e - x) = e → e < l.length → (∀ j (h : j + 1 < l.length), x ≤ j → j < e → l[j + 1] = l[j] + 1) → (∀ h : e + 1 < l.length, l[e + 1] ≠ l[e] + 1) → spec_ISText.l0 (K + (e - x) + 2) l (B out) (x : Int) = spec_ISText.j2 K l (B out) x e := by
    intro out x e K h1 h2 h3 h4
    rw [show K + (e - x) + 2 = (K + (e - x) + 1) + 1 by omega, spec_ISText.l0, if_pos (by omega)]
    exact scan l hb hl (B out) x e h2 h4 (e - x) x K h1 h3
  have a0 := hl0 out i (i + d) (K + 8) (by omega) hE hr hend
  rw [show K + 8 + (i + d - i) + 2 = K + d + 10 by omega] at a0
  rw [a0, spec_ISText.j2]
  have hw : ∀ a b : Nat, a ≤ b → b ≤ 1000 → wrap64 ((b : Int) - a) = ((b - a : Nat) : Int) := fun a b h1 h2 => by unfold wrap64; omega
  rw [hw i (i + d) (by omega) (by omega)]
  have hv : ∀ t (h : t ≤ d), l[i + t]'(by omega) = l[i] + t := by
    intro t
    induction t with
    | zero => intro h; simp
    | succ t ih =>
      intro h
      have h1 := hr (i + t) (by omega) (by omega) (by omega)
      have h2 := ih (by omega)
      have h3 : l[i + (t + 1)] = l[i + t + 1] := rfl
      rw [h3, h1, h2]; push_cast; omega
  rcases Nat.lt_or_ge d 2 with hd | hd
  · rw [if_pos (by omega), one l hb hl out (by omega) i i (Nat.le_refl _) (by omega) (K + 5) (by omega), if_pos rfl, List.append_nil]
    rcases Nat.lt_or_ge d 1 with hd1 | hd1
    · obtain rfl : d = 0 := by omega
      refine ⟨K + 5, by omega, ?_⟩
      have : rg l[i] l[i + 0] = Lib.itoa l[i] := by unfold rg; exact if_pos rfl
      rw [this]
    · obtain rfl : d = 1 := by omega
      have a1 := hl0 (cm out ++ Lib.itoa l[i]) (i + 1) (i + 1) (K + 3) (by omega) hE (fun j h h1 h2 => by omega) hend
      rw [show K + 3 + (i + 1 - (i + 1)) + 2 = K + 5 by omega] at a1
      have hc : (cm out).length ≤ 90001 := by unfold cm; split <;> simp; omega
      have n1 := itoa_len l[i] b1.1 b1.2
      rw [a1, spec_ISText.j2, hw (i + 1) (i + 1) (by omega) (by omega), if_pos (by omega), one l hb hl _ (by rw [List.length_append]; omega) (i + 1) (i + 1) (Nat.le_refl _) hE K hK, if_pos rfl, List.append_nil]
      refine ⟨K, by omega, ?_⟩
      have hne : cm out ++ Lib.itoa l[i] ≠ [] := fun h => itoa_ne l[i] b1.1 b1.2 (List.append_eq_nil_iff.1 h).2
      have h1 : cm (cm out ++ Lib.itoa l[i]) = cm out ++ Lib.itoa l[i] ++ [44] := cm_ne hne
      have hv1 := hv 1 (by omega)
      have h2 : rg l[i] l[i + 1] = Lib.itoa l[i] ++ [44] ++ Lib.itoa l[i + 1] := by
        unfold rg; rw [if_neg (by omega), if_pos (by omega)]
      rw [h1, h2]
      simp only [List.append_assoc]
  · rw [if_neg (by omega), one l hb hl out (by omega) i (i + d) (by omega) hE (K + 5) (by omega), if_neg (by omega)]
    refine ⟨K + 5, by omega, ?_⟩
    have hvd := hv d (by omega)
    have h2 : rg l[i] l[i + d] = Lib.itoa l[i] ++ [45] ++ Lib.itoa l[i + d] := by
      unfold rg; rw [if_neg (by omega), if_neg (by omega)]
    rw [h2]
    simp only [List.append_assoc]
/-- where a run ends -/
theorem run_end (l : List Int) (i : Nat) (hi : i < l.length) : ∃ d, ∃ hE : i + d < l.length, (∀ j (h : j + 1 < l.length), i ≤ j → j < i + d → l[j + 1] = l[j] + 1) ∧ ∀ h : i + d + 1 < l.length, l[i + d + 1] ≠ l[i + d] + 1 := by
  suffices ∀ n i, l.length - i = n → ∀ (hi : i < l.length), ∃ d, ∃ hE : i + d < l.length, (∀ j (h : j + 1 < l.length), i ≤ j → j < i + d → l[j + 1] = l[j] + 1) ∧ ∀ h : i + d + 1 < l.length, l[i + d + 1] ≠ l[i + d] + 1 from this _ i rfl hi
  intro n
  induction n with
  | zero => intro i h hi; omega
  | succ n ih =>
    intro i hn hi
    by_cases h : i + 1 < l.length
    · by_cases h2 : l[i + 1] = l[i] + 1
      · obtain ⟨d, hE, h3, h4⟩ := ih (i + 1) (by omega) h
        refine ⟨d + 1, by omega, fun j hj h5 h6 => ?_, fun h5 => ?_⟩
        · rcases Nat.lt_or_ge i j with h7 | h7
          · exact h3 j hj (by omega) (by omega)
          · obtain rfl : j = i := by omega
            exact h2
        · have := h4 (by omega)
          simp only [show i + (d + 1) = i + 1 + d by omega] at *
          exact this
      · exact ⟨0, hi, fun j hj h5 h6 => by omega, fun _ => h2⟩
    · exact ⟨0, hi, fun j hj h5 h6 => by omega, fun h5 => by omega⟩
theorem text_go (l : List Int) (hb : ∀ x ∈ l, 0 ≤ x ∧ x ≤ 1000) (hl : l.length ≤ 200) : ∀ (n i K : Nat) (out : List UInt8), l.length - i ≤ n → i ≤ l.length → 20 * (l.length - i) + 10 ≤ K → out.length ≤ 60 * i → flush (stOf (l.take i)) = 40 :: out → ((out = []) ↔ (stOf (l.take i)).2.1 = -1) →
    ((hi : i < l.length) → (stOf (l.take i)).2.1 = -1 ∨ (stOf (l.take i)).2.2 ≠ l[i] - 1) → spec_ISText.l0 K l (B out) (i : Int) = some (B (textOf l)) := by
  intro n
  induction n with
  | zero =>
    intro i K out hn hi hK ho hf _ _
    obtain rfl : i = l.length := by omega
    obtain ⟨K, rfl⟩ : ∃ z, K = z + 1 := ⟨K - 1, by omega⟩
    rw [spec_ISText.l0, if_neg (by omega), B_size, if_pos (by omega), show (⟨#[40]⟩ : ByteArray) = B [40] from rfl, show (⟨#[41]⟩ : ByteArray) = B [41] from rfl, B_app, B_size, if_pos (by simp; omega), B_app]
    have : textOf l = flush (stOf l) ++ [41] := rfl
    rw [List.take_length] at hf
    rw [this, hf]
    rfl
  | succ n ih =>
    intro i K out hn hi hK ho hf hz h0
    rcases Nat.lt_or_ge i l.length with hlt | hge
    · obtain ⟨d, hE, hr, hend⟩ := run_end l i hlt
      obtain ⟨K1, rfl⟩ : ∃ z, K = z + d + 10 := ⟨K - d - 10, by omega⟩
      obtain ⟨K2, hK2, e⟩ := run_spec l hb hl out (by omega) i d hE hr hend K1 (by omega)
      rw [e]
      have hp := prog_run l hb i h0 d hE hr
      have b1 := hb l[i] (List.getElem_mem _)
      have b2 := hb l[i + d] (List.getElem_mem _)
      have hrl := rg_len l[i] l[i + d] b1 b2
      have hcl : (cm out).length ≤ out.length + 1 := by unfold cm; split <;> simp
      refine ih (i + d + 1) K2 _ (by omega) (by omega) (by omega) (by rw [List.length_append]; omega) ?_ ?_ ?_
      · rw [hp]
        unfold flush
        simp only
        rw [if_pos (by omega)]
        have hs : sep (flush (stOf (l.take i))) = 40 :: cm out := by
          rw [hf]
          unfold sep cm
          by_cases h : out = []
          · subst h; simp
          · have : 0 < out.length := List.length_pos_iff.2 h
            rw [if_pos (by simp; omega), if_neg h]
            rfl
        have hs2 := hs
        unfold flush at hs2
        rw [hs2]
        rfl
      · rw [hp]
        simp only
        constructor
        · intro h
          have h2 := (List.append_eq_nil_iff.1 h).2
          unfold rg at h2
          split at h2
          · exact absurd h2 (itoa_ne _ b1.1 b1.2)
          · split at h2 <;> simp at h2
        · intro h; omega
      · intro h
        rw [hp]
        right
        have := hend h
        simp only
        omega
    · obtain rfl : i = l.length := by omega
      exact ih l.length K out (by omega) (by omega) hK ho hf hz h0
theorem text_ok (l : List Int) (hb : ∀ x ∈ l, 0 ≤ x ∧ x ≤ 1000) (hl : l.length ≤ 200) (K : Nat) (hK : 4010 ≤ K) : spec_ISText.f K l = some (B (textOf l)) := by
  unfold spec_ISText.f
  exact text_go l hb hl l.length 0 K [] (by omega) (by omega) (by omega) (by simp) rfl (by simp [stOf, st0]) (fun _ => .inl rfl)
end T
theorem FnISText : laws_FnISText.Pure := by
  intro l0 _ _ _
  refine ⟨5000, ?_⟩
  unfold laws_FnISText.f
  split
  · rfl
  · obtain ⟨a, ha, ga⟩ := T.set_go l0 40 0 5000 [] (by omega) (by omega) (by omega) ⟨List.Pairwise.nil, fun x h => by simp at h, by simp⟩
    have la := ga.2.2
    have gc := T.good_put ga (show (0 : Int) ≤ 5 by decide) (by decide)
    have hpa : laws_isSet.f 5000 l0 = some a := ha
    rw [hpa, Option.bind_some, T.put_ok a 5 5000 (by omega) (by omega), Option.bind_some]
    have hR : Rise (T.gp 5 a false) := ⟨gc.1, fun x hx => ⟨(gc.2.1 x hx).1, by have := (gc.2.1 x hx).2; omega⟩, by have := gc.2.2; omega⟩
    have e1 : impl_ISText.f (T.gp 5 a false) = some (T.B (textOf (T.gp 5 a false))) := by unfold impl_ISText.f; rw [if_pos hR]; rfl
    rw [e1, Option.bind_some, T.text_ok _ hR.2.1 hR.2.2 5000 (by omega), Option.bind_some]
    simp
end Go.Proofs.YtlghbhkpdlkhjaaDoor.Pure
