/-
  LIKE: a matcher over nodes with backtracking, in plain Lean: what holds in its loop, and what it answers; the nodes of a pattern. No condition.
-/
import Derived.Lib.Case
namespace Go.Proofs.YthicaehcoingeaaDoor.PLK
set_option linter.unusedVariables false
/-- Whether nodes match a text: none is any characters, some w one of the weight w (below 0: any one). -/
def mt (f : Int → Int) : List (Option Int) → List Int → Bool
  | [], s => s.isEmpty
  | none :: t, s => (List.range (s.length + 1)).any fun i => mt f t (s.drop i)
  | some _ :: _, [] => false
  | some w :: t, c :: s => (decide (w < 0) || f c == w) && mt f t s
/-- one rune's node takes a rune -/
def tk (f : Int → Int) (w c : Int) : Bool := decide (w < 0) || f c == w
theorem mt_any (f : Int → Int) (t : List (Option Int)) (s : List Int) : mt f (none :: t) s = true ↔ ∃ i, i ≤ s.length ∧ mt f t (s.drop i) = true := by
  rw [show mt f (none :: t) s = (List.range (s.length + 1)).any fun i => mt f t (s.drop i) from rfl]
  simp only [List.any_eq_true, List.mem_range]
  constructor
  · rintro ⟨i, hi, h⟩
    exact ⟨i, by omega, h⟩
  · rintro ⟨i, hi, h⟩
    exact ⟨i, by omega, h⟩
theorem drop_at {α} (l : List α) (i : Nat) (x : α) (h : l[i]? = some x) : l.drop i = x :: l.drop (i + 1) := by
  obtain ⟨hi, rfl⟩ := List.getElem?_eq_some_iff.1 h
  exact List.drop_eq_getElem_cons hi
/-- the nodes from a on, as many as there are, are of one rune each, and take the runes from q on -/
def Ones (f : Int → Int) (N : List (Option Int)) (s : List Int) (a q n : Nat) : Prop := ∀ k, k < n → ∃ w c, N[a + k]? = some (some w) ∧ s[q + k]? = some c ∧ tk f w c = true
theorem ones_step (f : Int → Int) (N : List (Option Int)) (s : List Int) (a : Nat) : ∀ (n q : Nat), Ones f N s a q n → mt f (N.drop a) (s.drop q) = mt f (N.drop (a + n)) (s.drop (q + n))
  | 0, q, h => rfl
  | n + 1, q, h => by
    have ih := ones_step f N s a n q (fun k hk => h k (by omega))
    obtain ⟨w, c, h1, h2, h3⟩ := h n (by omega)
    rw [ih, drop_at N (a + n) _ h1, drop_at s (q + n) _ h2]
    show (tk f w c && mt f (N.drop (a + n + 1)) (s.drop (q + n + 1))) = _
    rw [h3, Bool.true_and]
    rfl
theorem ones_need (f : Int → Int) (N : List (Option Int)) (s : List Int) (a : Nat) : ∀ (n q : Nat), (∀ k, k < n → ∃ w, N[a + k]? = some (some w)) → mt f (N.drop a) (s.drop q) = true → q ≤ s.length → q + n ≤ s.length ∧ mt f (N.drop (a + n)) (s.drop (q + n)) = true
  | 0, q, _, h, hq => ⟨hq, h⟩
  | n + 1, q, ho, h, hq => by
    obtain ⟨h1, h2⟩ := ones_need f N s a n q (fun k hk => ho k (by omega)) h hq
    obtain ⟨w, hw⟩ := ho n (by omega)
    rw [drop_at N (a + n) _ hw] at h2
    rcases Nat.lt_or_ge (q + n) s.length with hl | hl
    · rw [List.drop_eq_getElem_cons hl] at h2
      have h3 : (tk f w s[q + n] && mt f (N.drop (a + n + 1)) (s.drop (q + n + 1))) = true := h2
      rw [Bool.and_eq_true] at h3
      exact ⟨by omega, h3.2⟩
    · rw [List.drop_eq_nil_of_le hl] at h2
      cases h2
/-- What holds in the loop: a: behind the last node of any characters (0: none yet), which ended at q; i: the node that is next; it stands at q + (i - a) of the text. -/
structure Inv (f : Int → Int) (N : List (Option Int)) (s : List Int) (a q i : Nat) : Prop where
  ai : a ≤ i
  i_n : i ≤ N.length
  p_l : q + (i - a) ≤ s.length
  ones : Ones f N s a q (i - a)
  zero : a = 0 → q = 0
  node : 0 < a → N[a - 1]? = some none
  iff : 0 < a → (mt f N s = true ↔ ∃ q', q ≤ q' ∧ q' ≤ s.length ∧ mt f (N.drop a) (s.drop q') = true)
theorem Inv.start (f : Int → Int) (N : List (Option Int)) (s : List Int) : Inv f N s 0 0 0 := ⟨Nat.le_refl _, Nat.zero_le _, Nat.zero_le _, fun k h => absurd h (by omega), fun _ => rfl, fun h => absurd h (by omega), fun h => absurd h (by omega)⟩
theorem Inv.one {f : Int → Int} {N : List (Option Int)} {s : List Int} {a q i : Nat} (h : Inv f N s a q i) {w c : Int} (hn : N[i]? = some (some w)) (hc : s[q + (i - a)]? = some c) (ht : tk f w c = true) : Inv f N s a q (i + 1) := by
  obtain ⟨hi, -⟩ := List.getElem?_eq_some_iff.1 hn
  obtain ⟨hp, -⟩ := List.getElem?_eq_some_iff.1 hc
  have := h.ai
  refine ⟨by omega, by omega, by omega, ?_, h.zero, h.node, h.iff⟩
  intro k hk
  rcases Nat.lt_or_ge k (i - a) with hk2 | hk2
  · exact h.ones k hk2
  · have e : k = i - a := by omega
    subst e
    exact ⟨w, c, by rw [show a + (i - a) = i by omega]; exact hn, hc, ht⟩
theorem Inv.any {f : Int → Int} {N : List (Option Int)} {s : List Int} {a q i : Nat} (h : Inv f N s a q i) (hn : N[i]? = some none) : Inv f N s (i + 1) (q + (i - a)) (i + 1) := by
  obtain ⟨hi, -⟩ := List.getElem?_eq_some_iff.1 hn
  have hai := h.ai
  have hpl := h.p_l
  refine ⟨Nat.le_refl _, by omega, by omega, fun k hk => absurd hk (by omega), fun h => absurd h (by omega), fun _ => hn, fun _ => ?_⟩
  have eai : a + (i - a) = i := by omega
  have key : mt f (N.drop i) (s.drop (q + (i - a))) = true ↔ ∃ q', q + (i - a) ≤ q' ∧ q' ≤ s.length ∧ mt f (N.drop (i + 1)) (s.drop q') = true := by
    rw [drop_at N i _ hn, mt_any]
    constructor
    · rintro ⟨k, hk, hm⟩
      rw [List.drop_drop] at hm
      rw [List.length_drop] at hk
      exact ⟨q + (i - a) + k, by omega, by omega, hm⟩
    · rintro ⟨q', h1, h2, hm⟩
      refine ⟨q' - (q + (i - a)), by rw [List.length_drop]; omega, ?_⟩
      rw [List.drop_drop, show q + (i - a) + (q' - (q + (i - a))) = q' by omega]
      exact hm
  have hstep := ones_step f N s a (i - a) q h.ones
  rw [eai] at hstep
  rw [← key, ← hstep]
  rcases Nat.eq_zero_or_pos a with h0 | h0
  · obtain rfl := h.zero h0
    subst h0
    rfl
  · rw [h.iff h0]
    constructor
    · rintro ⟨q', h1, h2, hm⟩
      obtain ⟨h3, h4⟩ := ones_need f N s a (i - a) q' (fun k hk => (h.ones k hk).elim fun w hw => hw.elim fun c hc => ⟨w, hc.1⟩) hm h2
      rw [eai, drop_at N i _ hn, mt_any] at h4
      obtain ⟨k, hk, h5⟩ := h4
      rw [hstep, key]
      rw [List.drop_drop] at h5
      rw [List.length_drop] at hk
      exact ⟨q' + (i - a) + k, by omega, by omega, h5⟩
    · intro hm
      exact ⟨q, Nat.le_refl _, by omega, hm⟩
theorem Inv.back {f : Int → Int} {N : List (Option Int)} {s : List Int} {a q i : Nat} (h : Inv f N s a q i) (h0 : 0 < a) (hf : mt f (N.drop i) (s.drop (q + (i - a))) = false) (hp : q + (i - a) < s.length) : Inv f N s a (q + 1) a := by
  have hai := h.ai
  have hin := h.i_n
  refine ⟨Nat.le_refl _, by omega, by omega, fun k hk => absurd hk (by omega), fun h => absurd h (by omega), h.node, fun _ => ?_⟩
  have hstep := ones_step f N s a (i - a) q h.ones
  rw [show a + (i - a) = i by omega, hf] at hstep
  rw [h.iff h0]
  constructor
  · rintro ⟨q', h1, h2, hm⟩
    rcases Nat.eq_or_lt_of_le h1 with rfl | h3
    · rw [hstep] at hm; cases hm
    · exact ⟨q', h3, h2, hm⟩
  · rintro ⟨q', h1, h2, hm⟩
    exact ⟨q', by omega, h2, hm⟩
theorem Inv.fails {f : Int → Int} {N : List (Option Int)} {s : List Int} {q i : Nat} (h : Inv f N s 0 q i) (hf : mt f (N.drop i) (s.drop (q + i)) = false) : mt f N s = false := by
  obtain rfl := h.zero rfl
  have hstep := ones_step f N s 0 i 0 h.ones
  rw [Nat.zero_add] at hstep hf
  rw [hf] at hstep
  simpa using hstep
theorem Inv.ends {f : Int → Int} {N : List (Option Int)} {s : List Int} {a q i : Nat} (h : Inv f N s a q i) (hp : q + (i - a) = s.length) : mt f N s = mt f (N.drop i) [] := by
  have hai := h.ai
  have hstep := ones_step f N s a (i - a) q h.ones
  rw [show a + (i - a) = i by omega, hp, List.drop_eq_nil_of_le (Nat.le_refl _)] at hstep
  rw [← hstep]
  rcases Nat.eq_zero_or_pos a with h0 | h0
  · obtain rfl := h.zero h0
    subst h0
    rfl
  · rw [Bool.eq_iff_iff, h.iff h0]
    constructor
    · rintro ⟨q', h1, h2, hm⟩
      obtain ⟨h3, h4⟩ := ones_need f N s a (i - a) q' (fun k hk => (h.ones k hk).elim fun w hw => hw.elim fun c hc => ⟨w, hc.1⟩) hm h2
      obtain rfl : q' = q := by omega
      exact hm
    · intro hm
      exact ⟨q, Nat.le_refl _, by omega, hm⟩
theorem mt_nil (f : Int → Int) : ∀ N : List (Option Int), mt f N [] = N.all (·.isNone)
  | [] => rfl
  | none :: t => by
    rw [Bool.eq_iff_iff, mt_any]
    constructor
    · rintro ⟨i, hi, h⟩
      simp only [List.drop_nil] at h
      rw [mt_nil f t] at h
      simpa using h
    · intro h
      refine ⟨0, Nat.le_refl _, ?_⟩
      rw [List.drop_nil, mt_nil f t]
      simpa using h
  | some w :: t => rfl
/-- the node of a character that is not escaped -/
def nd (g : Int → Int) (c : Int) : Option Int := if c = 37 then none else if c = 95 then some (-1) else some (g c)
/-- the nodes of a pattern; none: it ends with the escape character -/
def nodes (g : Int → Int) : List Int → Option (List (Option Int))
  | [] => some []
  | [c] => if c = 92 then none else some [nd g c]
  | c :: d :: t => if c = 92 then (nodes g t).map (some (g d) :: ·) else (nodes g (d :: t)).map (nd g c :: ·)
theorem nodes_cons (g : Int → Int) (c : Int) (t : List Int) (h : c ≠ 92) : nodes g (c :: t) = (nodes g t).map (nd g c :: ·) := by
  cases t with
  | nil => simp [nodes, h]
  | cons d t => simp [nodes, h]
theorem nodes_esc (g : Int → Int) (d : Int) (t : List Int) : nodes g (92 :: d :: t) = (nodes g t).map (some (g d) :: ·) := by
  simp [nodes]
theorem nodes_len (g : Int → Int) : ∀ (n : Nat) (p : List Int) (N : List (Option Int)), p.length ≤ n → nodes g p = some N → N.length ≤ p.length
  | _, [], N, _, h => by simp [nodes] at h; subst h; simp
  | 0, c :: t, N, hn, h => by simp at hn
  | n + 1, c :: t, N, hn, h => by
    simp only [List.length_cons] at hn ⊢
    by_cases hc : c = 92
    · subst hc
      cases t with
      | nil => simp [nodes] at h
      | cons d t =>
        rw [nodes_esc] at h
        obtain ⟨M, hM, rfl⟩ := Option.map_eq_some_iff.1 h
        have := nodes_len g n t M (by simp at hn; omega) hM
        simp only [List.length_cons]
        omega
    · rw [nodes_cons g c t hc] at h
      obtain ⟨M, hM, rfl⟩ := Option.map_eq_some_iff.1 h
      have := nodes_len g n t M (by omega) hM
      simp only [List.length_cons]
      omega
end Go.Proofs.YthicaehcoingeaaDoor.PLK
