/-
  What ISPut, RGPlaces, RRColumn, RRHas and rgLists answer: plain facts. No condition but the sizes.
-/
import Derived.Test.YtlcoodjkolponaaDoorRSq
import Derived.Test.YtlcoodjkolponaaDoorRZa
namespace Go.Proofs.YtlcoodjkolponaaDoor.PRR
open Go.RowKit Go.Proofs.YtlcoodjkolponaaDoorW.PrintWords Go.Proofs.YtlcoodjkolponaaDoorW.PrintLast Go.Proofs.YtlcoodjkolponaaDoorW.PrintMore
set_option linter.unusedVariables false
set_option linter.unusedSimpArgs false

theorem rd_int (a : List Int) (j : Nat) (h : j < a.length) : rd a (j : Int) = a[j] := by
  unfold rd; rw [Int.toNat_natCast, List.getD_eq_getElem?_getD, List.getElem?_eq_getElem h]; rfl
theorem rd_rows (a : List (List S44)) (j : Nat) (h : j < a.length) : rd_L3 a (j : Int) = a[j] := by
  unfold rd_L3; rw [Int.toNat_natCast, List.getD_eq_getElem?_getD, List.getElem?_eq_getElem h]; rfl
theorem put_go (l : List Int) (x : Int) (hl : l.length ≤ 1000) :
    ∀ (d j k : Nat) (acc : List Int) (dn : Bool), j + d = l.length → 3 * d + 1 ≤ k → acc.length + 2 * d ≤ 3000 → ∃ r, spec_ISPut.l0 k l x acc dn (j : Int) = some r ∧ r.length ≤ acc.length + d + (if dn = true then 0 else 1) := by
  intro d
  induction d with
  | zero =>
    intro j k acc dn hj hk ha
    obtain ⟨k, rfl⟩ : ∃ q, k = q + 1 := ⟨k - 1, by omega⟩
    simp only [spec_ISPut.l0]
    rw [if_neg (by omega)]
    cases dn with
    | true => exact ⟨acc, by rw [if_pos rfl], by simp⟩
    | false => rw [if_neg (by simp), if_pos (by omega)]; exact ⟨_, rfl, by simp⟩
  | succ d ih =>
    intro j k acc dn hj hk ha
    obtain ⟨k, rfl⟩ : ∃ q, k = q + 3 := ⟨k - 3, by omega⟩
    have hlt : j < l.length := by omega
    have two : ∀ (acc' : List Int) (dn' : Bool), acc'.length + 2 * d + 1 ≤ 3000 → ∃ r, spec_ISPut.j2 (k + 1) l x acc' dn' (j : Int) = some r ∧ r.length ≤ acc'.length + 1 + d + (if dn' = true then 0 else 1) := by
      intro acc' dn' h'
      simp only [spec_ISPut.j2]
      rw [if_pos (by omega), if_pos (by omega), w64s j (by omega)]
      by_cases e : rd l (j : Int) = x
      · rw [if_pos e]
        obtain ⟨r, h1, h2⟩ := ih (j + 1) k acc' dn' (by omega) (by omega) (by omega)
        exact ⟨r, h1, by omega⟩
      · rw [if_neg e, if_pos (by omega)]
        obtain ⟨r, h1, h2⟩ := ih (j + 1) k (acc' ++ [rd l (j : Int)]) dn' (by omega) (by omega) (by simp; omega)
        rw [List.length_append] at h2
        exact ⟨r, h1, by simp at h2; omega⟩
    have one : ∀ (b : Bool), (dn = true → b = false) → ∃ r, spec_ISPut.j1 (k + 2) l x acc dn (j : Int) b = some r ∧ r.length ≤ acc.length + (d + 1) + (if dn = true then 0 else 1) := by
      intro b hb
      simp only [spec_ISPut.j1]
      cases b with
      | true =>
        have hdn : dn = false := by cases dn with | false => rfl | true => exact absurd (hb rfl) (by simp)
        rw [if_pos rfl, if_pos (by omega)]
        obtain ⟨r, h1, h2⟩ := two (acc ++ [x]) true (by simp; omega)
        rw [List.length_append] at h2
        exact ⟨r, h1, by subst hdn; simp at h2 ⊢; omega⟩
      | false =>
        rw [if_neg (by simp)]
        obtain ⟨r, h1, h2⟩ := two acc dn (by omega)
        exact ⟨r, h1, by omega⟩
    simp only [spec_ISPut.l0]
    rw [if_pos (by omega)]
    cases dn with
    | true => rw [if_pos rfl]; exact one false (fun _ => rfl)
    | false => rw [if_neg (by simp), if_pos (by omega)]; exact one _ (fun h => by cases h)
theorem put_ex (l : List Int) (x : Int) (hl : l.length ≤ 1000) (k : Nat) (hk : 3 * l.length + 1 ≤ k) : ∃ r, spec_ISPut.f k l x = some r ∧ r.length ≤ l.length + 1 := by
  obtain ⟨r, h1, h2⟩ := put_go l x hl l.length 0 k [] false (by omega) hk (by simp; omega)
  exact ⟨r, h1, by simp at h2; omega⟩
theorem places_go (l : List S44) (hf : ∀ x ∈ l, FineS x) (hl : l.length ≤ 30) :
    ∀ (d j k : Nat) (acc : List Int), j + d = l.length → d + 300 ≤ k → acc.length + 2 * d ≤ 70 → ∃ r, spec_RGPlaces.l0 k l acc (j : Int) = some r ∧ r.length ≤ acc.length + 2 * d := by
  intro d
  induction d with
  | zero =>
    intro j k acc hj hk ha
    obtain ⟨k, rfl⟩ : ∃ q, k = q + 1 := ⟨k - 1, by omega⟩
    simp only [spec_RGPlaces.l0]
    rw [if_neg (by omega)]
    exact ⟨acc, rfl, by omega⟩
  | succ d ih =>
    intro j k acc hj hk ha
    obtain ⟨k, rfl⟩ : ∃ q, k = q + 1 := ⟨k - 1, by omega⟩
    have hlt : j < l.length := by omega
    obtain ⟨f1, f2⟩ := hf l[j] (List.getElem_mem hlt)
    simp only [spec_RGPlaces.l0]
    rw [if_pos (by omega), if_pos (by omega), rd_at l j hlt, ends_fine k (by omega) f1 f2]
    simp only [Option.bind_some]
    obtain ⟨r1, h1, n1⟩ := put_ex acc (plc l[j].f0.f0 l[j].f0.f1) (by omega) k (by omega)
    rw [h1]
    simp only [Option.bind_some]
    obtain ⟨r2, h2, n2⟩ := put_ex r1 (plc l[j].f1.f0 l[j].f1.f1) (by omega) k (by omega)
    rw [h2]
    simp only [Option.bind_some]
    rw [w64s j (by omega)]
    obtain ⟨r, h3, n3⟩ := ih (j + 1) k r2 (by omega) (by omega) (by omega)
    exact ⟨r, h3, by omega⟩
theorem places_ex (l : List S44) (hf : ∀ x ∈ l, FineS x) (hl : l.length ≤ 30) : ∃ r, spec_RGPlaces.f 400 l = some r ∧ r.length ≤ 70 := by
  obtain ⟨r, h1, h2⟩ := places_go l hf hl l.length 0 400 [0] (by omega) (by omega) (by simp; omega)
  exact ⟨r, h1, by simp at h2; omega⟩
theorem column_go (l : List (List S44)) (hf : ∀ x ∈ l, ∀ y ∈ x, FineS y) (hl : l.length ≤ 30) (c : Nat) :
    ∀ (d j k : Nat) (acc : List S44), j + d = l.length → d + 1 ≤ k → acc.length ≤ j → (∀ y ∈ acc, FineS y) → ∃ r, spec_RRColumn.l0 k l (c : Int) acc (j : Int) = some r ∧ r.length ≤ l.length ∧ ∀ y ∈ r, FineS y := by
  intro d
  induction d with
  | zero =>
    intro j k acc hj hk ha hy
    obtain ⟨k, rfl⟩ : ∃ q, k = q + 1 := ⟨k - 1, by omega⟩
    simp only [spec_RRColumn.l0]
    rw [if_neg (by omega)]
    exact ⟨acc, rfl, by omega, hy⟩
  | succ d ih =>
    intro j k acc hj hk ha hy
    obtain ⟨k, rfl⟩ : ∃ q, k = q + 1 := ⟨k - 1, by omega⟩
    have hlt : j < l.length := by omega
    simp only [spec_RRColumn.l0]
    rw [if_pos (by omega), if_pos (by omega), rd_rows l j hlt, w64s j (by omega)]
    by_cases e : c < l[j].length
    · rw [if_pos (by omega), if_pos (by omega), if_pos (by omega)]
      refine ih (j + 1) k _ (by omega) (by omega) (by simp; omega) fun y hy' => ?_
      rcases List.mem_append.1 hy' with h | h
      · exact hy y h
      · rw [List.mem_singleton.1 h, rd_at l[j] c e]
        exact hf _ (List.getElem_mem hlt) _ (List.getElem_mem e)
    · rw [if_neg (by omega)]
      exact ih (j + 1) k acc (by omega) (by omega) (by omega) hy
theorem column_ex (l : List (List S44)) (hf : ∀ x ∈ l, ∀ y ∈ x, FineS y) (hl : l.length ≤ 30) (c : Nat) : ∃ r, spec_RRColumn.f 40 l (c : Int) = some r ∧ r.length ≤ 30 ∧ ∀ y ∈ r, FineS y := by
  obtain ⟨r, h1, h2, h3⟩ := column_go l hf hl c l.length 0 40 [] (by omega) (by omega) (by simp) (by simp)
  exact ⟨r, h1, by omega, h3⟩
/-- Has a row the values at places? -/
def inRow (x : List S44) (at_ : List Int) : Bool := (x.zip at_).all fun z => decide (lo z.1 ≤ z.2) && decide (z.2 < hi z.1)
def hasB (rows : List (List S44)) (at_ : List Int) : Bool := rows.any fun x => (x.length == at_.length) && inRow x at_
theorem in_fine (n : Nat) (hn : 2 ≤ n) {x : S44} (h : FineS x) (p : Int) : spec_RGIn.f n x.f0.f0 x.f0.f1 x.f1.f0 x.f1.f1 p = some (decide (lo x ≤ p) && decide (p < hi x)) := by
  unfold spec_RGIn.f
  rw [ends_fine n hn h.1 h.2]
  simp only [Option.bind_some]
  show (if lo x ≤ p then some (decide (p < hi x)) else some false) = _
  by_cases e : lo x ≤ p
  · rw [if_pos e, decide_eq_true e]; rfl
  · rw [if_neg e, decide_eq_false e]; rfl
theorem has_in (rows : List (List S44)) (at_ : List Int) (i : Nat) (hi' : i < rows.length) (hf : ∀ y ∈ rows[i], FineS y) (hlen : rows[i].length = at_.length) (hl : at_.length ≤ 1000) (K : Nat) (b : Bool)
    (hrest : ∀ k, K ≤ k → spec_RRHas.j2 k rows at_ (i : Int) false = some b) (hyes : ∀ k, K ≤ k → spec_RRHas.j2 k rows at_ (i : Int) true = some true) :
    ∀ (d j k : Nat), j + d = at_.length → d + 2 + K + 1 ≤ k → spec_RRHas.l1 k rows at_ (i : Int) true (j : Int) = some (inRow (rows[i].drop j) (at_.drop j) || b) := by
  intro d
  induction d with
  | zero =>
    intro j k hj hk
    obtain ⟨k, rfl⟩ : ∃ q, k = q + 1 := ⟨k - 1, by omega⟩
    simp only [spec_RRHas.l1]
    rw [if_neg (by omega), hyes k (by omega), List.drop_eq_nil_of_le (by omega), List.drop_eq_nil_of_le (by omega)]
    rfl
  | succ d ih =>
    intro j k hj hk
    obtain ⟨k, rfl⟩ : ∃ q, k = q + 1 := ⟨k - 1, by omega⟩
    have hja : j < at_.length := by omega
    have hjr : j < rows[i].length := by omega
    simp only [spec_RRHas.l1]
    rw [if_pos (by omega), if_pos trivial, if_pos (by omega), if_pos (by omega), if_pos (by omega), rd_rows rows i hi', if_pos (by omega), rd_at rows[i] j hjr, rd_int at_ j hja, in_fine k (by omega) (hf _ (List.getElem_mem hjr)) at_[j]]
    simp only [Option.bind_some]
    rw [w64s j (by omega), List.drop_eq_getElem_cons hjr, List.drop_eq_getElem_cons hja]
    unfold inRow
    rw [List.zip_cons_cons, List.all_cons]
    simp only
    cases e : (decide (lo rows[i][j] ≤ at_[j]) && decide (at_[j] < hi rows[i][j])) with
    | true => rw [ih (j + 1) k (by omega) (by omega)]; rfl
    | false =>
      obtain ⟨k, rfl⟩ : ∃ q, k = q + 1 := ⟨k - 1, by omega⟩
      simp only [spec_RRHas.l1]
      rw [show (false && (List.zip (List.drop (j + 1) rows[i]) (List.drop (j + 1) at_)).all fun z => decide (lo z.1 ≤ z.2) && decide (z.2 < hi z.1)) = false from rfl, Bool.false_or]
      split
      · rw [if_neg (by simp)]; exact hrest k (by omega)
      · exact hrest k (by omega)
theorem has_go (rows : List (List S44)) (at_ : List Int) (hf : ∀ x ∈ rows, ∀ y ∈ x, FineS y) (hr : rows.length ≤ 1000) (hl : at_.length ≤ 1000) :
    ∀ (d i k : Nat), i + d = rows.length → d * (at_.length + 10) + 2 ≤ k → spec_RRHas.l0 k rows at_ (i : Int) = some (hasB (rows.drop i) at_) := by
  intro d
  induction d with
  | zero =>
    intro i k hi' hk
    obtain ⟨k, rfl⟩ : ∃ q, k = q + 1 := ⟨k - 1, by omega⟩
    simp only [spec_RRHas.l0]
    rw [if_neg (by omega), List.drop_eq_nil_of_le (by omega)]
    rfl
  | succ d ih =>
    intro i k hi' hk
    rw [Nat.add_mul, Nat.one_mul] at hk
    obtain ⟨k, rfl⟩ : ∃ q, k = q + 1 := ⟨k - 1, by omega⟩
    have hlt : i < rows.length := by omega
    have rest : ∀ q, d * (at_.length + 10) + 3 ≤ q → spec_RRHas.j2 q rows at_ (i : Int) false = some (hasB (rows.drop (i + 1)) at_) := by
      intro q hq
      obtain ⟨q, rfl⟩ : ∃ z, q = z + 1 := ⟨q - 1, by omega⟩
      simp only [spec_RRHas.j2]
      rw [if_neg (by simp), w64s i (by omega)]
      exact ih (i + 1) q (by omega) (by omega)
    have yes : ∀ q, d * (at_.length + 10) + 3 ≤ q → spec_RRHas.j2 q rows at_ (i : Int) true = some true := by
      intro q hq
      obtain ⟨q, rfl⟩ : ∃ z, q = z + 1 := ⟨q - 1, by omega⟩
      simp only [spec_RRHas.j2]
      rw [if_pos trivial]
    simp only [spec_RRHas.l0]
    rw [if_pos (by omega), if_pos (by omega), rd_rows rows i hlt, List.drop_eq_getElem_cons hlt]
    show _ = some (((rows[i].length == at_.length) && inRow rows[i] at_) || hasB (rows.drop (i + 1)) at_)
    by_cases e : rows[i].length = at_.length
    · rw [show ((rows[i].length : Int) == (at_.length : Int)) = true by simp [e], show (rows[i].length == at_.length) = true by simp [e], Bool.true_and]
      have h := has_in rows at_ i hlt (hf _ (List.getElem_mem hlt)) e hl (d * (at_.length + 10) + 3) _ rest yes at_.length 0 k (by omega) (by omega)
      simpa using h
    · rw [show ((rows[i].length : Int) == (at_.length : Int)) = false by simp; omega, show (rows[i].length == at_.length) = false by simp [e], Bool.false_and, Bool.false_or]
      obtain ⟨k, rfl⟩ : ∃ q, k = q + 1 := ⟨k - 1, by omega⟩
      simp only [spec_RRHas.l1]
      split
      · rw [if_neg (by simp)]; exact rest k (by omega)
      · exact rest k (by omega)
theorem has_list (rows : List (List S44)) (at_ : List Int) (hf : ∀ x ∈ rows, ∀ y ∈ x, FineS y) (hr : rows.length ≤ 1000) (hl : at_.length ≤ 1000) : spec_RRHas.f (rows.length * (at_.length + 10) + 2) rows at_ = some (hasB rows at_) := by
  have h := has_go rows at_ hf hr hl rows.length 0 _ (by omega) (Nat.le_refl _)
  exact h
theorem lists_go (l : List S44) (hl : l.length ≤ 1000) : ∀ (d j k : Nat) (acc : List (List S44)), j + d = l.length → d + 1 ≤ k → acc.length ≤ 1000 - d → acc = (l.take j).map (fun x => [x]) → laws_rgLists.l0 k l acc (j : Int) = some (l.map fun x => [x]) := by
  intro d
  induction d with
  | zero =>
    intro j k acc hj hk ha he
    obtain ⟨k, rfl⟩ : ∃ q, k = q + 1 := ⟨k - 1, by omega⟩
    simp only [laws_rgLists.l0]
    rw [if_neg (by omega), he, List.take_of_length_le (by omega)]
  | succ d ih =>
    intro j k acc hj hk ha he
    obtain ⟨k, rfl⟩ : ∃ q, k = q + 1 := ⟨k - 1, by omega⟩
    have hlt : j < l.length := by omega
    simp only [laws_rgLists.l0]
    rw [if_pos (by omega), if_pos (by omega), if_pos (by omega), rd_at l j hlt, w64s j (by omega)]
    refine ih (j + 1) k _ (by omega) (by omega) (by simp; omega) ?_
    rw [List.take_succ_eq_append_getElem hlt, List.map_append, he]
    rfl
theorem lists_list (l : List S44) (hl : l.length ≤ 1000) : laws_rgLists.f (l.length + 1) l = some (l.map fun x => [x]) :=
  lists_go l hl l.length 0 _ [] (by omega) (Nat.le_refl _) (by simp) rfl
end Go.Proofs.YtlcoodjkolponaaDoor.PRR
