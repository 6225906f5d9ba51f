/-
  Cuts, their places, and what rgCut, rgFull, rrFull, RRNone, RRSame answer: plain facts. No condition beyond the law's own guards.
-/
import Derived.Test.YtlcoodjkolponaaDoorPRR4
import Derived.Test.YtlcoodjkolponaaDoorPRR2
import Derived.Test.YtlcoodjkolponaaDoorRRa
namespace Go.Proofs.YtlcoodjkolponaaDoor.PRR
open Go.RowKit Go.Proofs.YtlcoodjkolponaaDoorW.PrintWords Go.Proofs.YtlcoodjkolponaaDoorW.PrintLast Go.Proofs.YtlcoodjkolponaaDoorW.PrintMore
open Go.Proofs.YtlcoodjkolponaaDoor.PRG (C cmpC cmpK)
set_option linter.unusedVariables false
set_option linter.unusedSimpArgs false

/-- A cut as the statement draws it: its kind and its key. -/
def Fine (k x : Int) : Prop := 0 ≤ k ∧ k ≤ 4 ∧ -20 ≤ x ∧ x ≤ 20 ∧ (k ≠ 2 → k ≠ 3 → x = 0)
/-- Its place. -/
def plc (k x : Int) : Int := if k = 0 ∨ k = 1 then k else if k = 2 ∨ k = 3 then 2 * (x + 1001) + k else 10000
theorem w64 {x : Int} (h0 : -9223372036854775808 ≤ x) (h1 : x ≤ 9223372036854775807) : wrap64 x = x := by
  unfold wrap64; omega
/-- A whole number of 64 bits. -/
def I64 (n : Int) : Prop := -9223372036854775808 ≤ n ∧ n ≤ 9223372036854775807

theorem rgCut_fine (a b : Int) (ha : I64 a) (hb : I64 b) : ∃ k x : Int, Fine k x ∧ laws_rgCut.f a b = some (k, x) := by
  unfold I64 at ha hb
  have t5 : ∀ x : Int, -4 ≤ Int.tmod x 5 ∧ Int.tmod x 5 ≤ 4 := fun x => by
    have h := Int.natAbs_tmod x 5
    have h2 : (Int.tmod x 5).natAbs < 5 := by rw [h]; exact Nat.mod_lt _ (by decide)
    omega
  have t41 : ∀ x : Int, -40 ≤ Int.tmod x 41 ∧ Int.tmod x 41 ≤ 40 := fun x => by
    have h := Int.natAbs_tmod x 41
    have h2 : (Int.tmod x 41).natAbs < 41 := by rw [h]; exact Nat.mod_lt _ (by decide)
    omega
  have a1 := t5 a
  have b1 := t41 b
  have e1 : wrap64 (Int.tmod a 5 + 5) = Int.tmod a 5 + 5 := w64 (by omega) (by omega)
  have e2 : wrap64 (Int.tmod b 41 + 41) = Int.tmod b 41 + 41 := w64 (by omega) (by omega)
  have a2 := t5 (Int.tmod a 5 + 5)
  have b2 := t41 (Int.tmod b 41 + 41)
  have a3 : 0 ≤ Int.tmod (Int.tmod a 5 + 5) 5 := Int.tmod_nonneg _ (by omega)
  have b3 : 0 ≤ Int.tmod (Int.tmod b 41 + 41) 41 := Int.tmod_nonneg _ (by omega)
  unfold laws_rgCut.f
  rw [e1, e2]
  generalize Int.tmod (Int.tmod a 5 + 5) 5 = u at *
  generalize Int.tmod (Int.tmod b 41 + 41) 41 = v at *
  rw [w64 (x := v - 20) (by omega) (by omega)]
  by_cases h2 : u = 2
  · rw [if_pos h2]; exact ⟨_, _, ⟨by omega, by omega, by omega, by omega, by omega⟩, rfl⟩
  · rw [if_neg h2]
    by_cases h3 : u = 3
    · rw [if_pos h3]; exact ⟨_, _, ⟨by omega, by omega, by omega, by omega, by omega⟩, rfl⟩
    · rw [if_neg h3]; exact ⟨_, _, ⟨by omega, by omega, by omega, by omega, by omega⟩, rfl⟩

theorem place_fine (n : Nat) (hn : 2 ≤ n) (k x : Int) (h : Fine k x) : spec_RGPlace.f n k x = some (plc k x) := by
  obtain ⟨n, rfl⟩ : ∃ j, n = j + 2 := ⟨n - 2, by omega⟩
  obtain ⟨h0, h1, h2, h3, h4⟩ := h
  unfold spec_RGPlace.f plc
  have : k = 0 ∨ k = 1 ∨ k = 2 ∨ k = 3 ∨ k = 4 := by omega
  rcases this with rfl | rfl | rfl | rfl | rfl <;> simp [spec_RGPlace.j0, spec_RGPlace.j1]
  all_goals (rw [w64 (x := x + 1001) (by omega) (by omega), w64 (x := 2 * (x + 1001)) (by omega) (by omega), w64 (by omega) (by omega)])

def sgn (x : Int) : Int := if x < 0 then -1 else if x > 0 then 1 else 0
theorem cmp_sgn (k x l y : Int) (hx : Fine k x) (hy : Fine l y) : cmpC (C.of k x) (C.of l y) = sgn (plc k x - plc l y) := by
  obtain ⟨h0, h1, h2, h3, h4⟩ := hx
  obtain ⟨g0, g1, g2, g3, g4⟩ := hy
  have hx : k = 0 ∨ k = 1 ∨ k = 2 ∨ k = 3 ∨ k = 4 := by omega
  have hy : l = 0 ∨ l = 1 ∨ l = 2 ∨ l = 3 ∨ l = 4 := by omega
  rcases hx with rfl | rfl | rfl | rfl | rfl <;> rcases hy with rfl | rfl | rfl | rfl | rfl <;> simp [C.of, cmpC, plc, sgn, cmpK] <;> (repeat' split) <;> omega
theorem sgn_0 (z : Int) : (sgn z == 0) = decide (z = 0) := by
  rw [Bool.eq_iff_iff]; simp only [beq_iff_eq, decide_eq_true_eq]; unfold sgn; repeat' split
  all_goals omega
theorem sgn_m (z : Int) : (sgn z == -1) = decide (z < 0) := by
  rw [Bool.eq_iff_iff]; simp only [beq_iff_eq, decide_eq_true_eq]; unfold sgn; repeat' split
  all_goals omega
theorem sgn_1 (z : Int) : (sgn z == 1) = decide (0 < z) := by
  rw [Bool.eq_iff_iff]; simp only [beq_iff_eq, decide_eq_true_eq]; unfold sgn; repeat' split
  all_goals omega
theorem sgn_pos (z : Int) : decide (0 < sgn z) = decide (0 < z) := by
  rw [Bool.eq_iff_iff]; simp only [decide_eq_true_eq]; unfold sgn; repeat' split
  all_goals omega
theorem sgn_le (z : Int) : decide (sgn z ≤ 0) = decide (z ≤ 0) := by
  rw [Bool.eq_iff_iff]; simp only [decide_eq_true_eq]; unfold sgn; repeat' split
  all_goals omega
theorem sgn_ge (z : Int) : decide (0 ≤ sgn z) = decide (0 ≤ z) := by
  rw [Bool.eq_iff_iff]; simp only [decide_eq_true_eq]; unfold sgn; repeat' split
  all_goals omega

/-- A range as the statement draws it. -/
structure Full (k x l y : Int) : Prop where
  lo : Fine k x
  hi : Fine l y
  lt : plc k x < plc l y

theorem rgFull_full (n : Nat) (hn : 4 ≤ n) (a b c d : Int) (ha : I64 a) (hb : I64 b) (hc : I64 c) (hd : I64 d) :
    ∃ k x l y, Full k x l y ∧ laws_rgFull.f n a b c d = some (k, x, l, y) := by
  obtain ⟨n, rfl⟩ : ∃ j, n = j + 1 := ⟨n - 1, by omega⟩
  obtain ⟨k, x, f1, e1⟩ := rgCut_fine a b ha hb
  obtain ⟨l, y, f2, e2⟩ := rgCut_fine c d hc hd
  have zero : Full 0 0 4 0 := ⟨⟨by omega, by omega, by omega, by omega, by omega⟩, ⟨by omega, by omega, by omega, by omega, by omega⟩, by simp [plc]⟩
  have j : ∀ k x l y, Fine k x → Fine l y → plc k x ≤ plc l y → ∃ k' x' l' y', Full k' x' l' y' ∧ laws_rgFull.j0 (n + 1) k x l y = some (k', x', l', y') := by
    intro k x l y f1 f2 hle
    simp only [laws_rgFull.j0]
    rw [place_fine n (by omega) k x f1]
    simp only [Option.bind_some]
    rw [place_fine n (by omega) l y f2]
    simp only [Option.bind_some]
    by_cases e : plc k x = plc l y
    · rw [if_pos e]; exact ⟨_, _, _, _, zero, rfl⟩
    · rw [if_neg e]; exact ⟨_, _, _, _, ⟨f1, f2, by omega⟩, rfl⟩
  unfold laws_rgFull.f
  rw [e1, e2]
  simp only [Option.bind_some]
  rw [place_fine (n + 1) (by omega) k x f1]
  simp only [Option.bind_some]
  rw [place_fine (n + 1) (by omega) l y f2]
  simp only [Option.bind_some]
  by_cases e : plc k x > plc l y
  · rw [if_pos e]; exact j l y k x f2 f1 (by omega)
  · rw [if_neg e]; exact j k x l y f1 f2 (by omega)

theorem ends_fine (n : Nat) (hn : 2 ≤ n) {k x l y : Int} (f1 : Fine k x) (f2 : Fine l y) : spec_RGEnds.f n k x l y = some (plc k x, plc l y) := by
  unfold spec_RGEnds.f
  rw [place_fine n hn k x f1]
  simp only [Option.bind_some]
  rw [place_fine n hn l y f2]
  rfl
theorem none_fine (n : Nat) (hn : 2 ≤ n) {k x l y : Int} (f1 : Fine k x) (f2 : Fine l y) : spec_RGNone.f n k x l y = some (decide (plc k x ≥ plc l y)) := by
  unfold spec_RGNone.f
  rw [ends_fine n hn f1 f2]
  rfl
theorem same_fine (n : Nat) (hn : 2 ≤ n) {k x l y k' x' l' y' : Int} (f1 : Fine k x) (f2 : Fine l y) (G : Full k' x' l' y') :
    spec_RGSame.f n k x l y k' x' l' y' = some (decide (plc k x = plc k' x') && decide (plc l y = plc l' y')) := by
  have g := G.lt
  unfold spec_RGSame.f
  rw [ends_fine n hn f1 f2, ends_fine n hn G.lo G.hi, none_fine n hn f1 f2, none_fine n hn G.lo G.hi]
  simp only [Option.bind_some]
  have hb : ∀ a b : Int, (a == b) = decide (a = b) := fun a b => by rw [Bool.eq_iff_iff]; simp
  have q : ¬ (decide (plc k' x' ≥ plc l' y') = true) := by simp; omega
  rw [if_neg q]
  by_cases e : plc k x = plc k' x'
  · rw [if_pos e, e]; simp [hb]
  · rw [if_neg e]; simp [e]

def FineS (x : S44) : Prop := Fine x.f0.f0 x.f0.f1 ∧ Fine x.f1.f0 x.f1.f1
def FullS (x : S44) : Prop := Full x.f0.f0 x.f0.f1 x.f1.f0 x.f1.f1
def WholeS (x : S44) : Prop := I64 x.f0.f0 ∧ I64 x.f0.f1 ∧ I64 x.f1.f0 ∧ I64 x.f1.f1
def lo (x : S44) : Int := plc x.f0.f0 x.f0.f1
def hi (x : S44) : Int := plc x.f1.f0 x.f1.f1
def noneS (x : S44) : Bool := decide (lo x ≥ hi x)
def sameS (x y : S44) : Bool := decide (lo x = lo y) && decide (hi x = hi y)
def allS (a b : List S44) : Bool := (a.zip b).all fun z => sameS z.1 z.2
theorem FullS.fine {x : S44} (h : FullS x) : FineS x := ⟨h.lo, h.hi⟩
theorem rd_at (a : List S44) (j : Nat) (h : j < a.length) : rd_T44 a (j : Int) = a[j] := by
  simp [rd_T44, List.getD_eq_getElem?_getD, List.getElem?_eq_getElem h]
theorem w64s (j : Nat) (h : j ≤ 2147483647) : wrap64 ((j : Int) + 1) = ((j + 1 : Nat) : Int) := by rw [w64 (by omega) (by omega)]; rfl

theorem none_go (a : List S44) (ha : ∀ x ∈ a, FineS x) (hl : a.length ≤ 1000) :
    ∀ (d j k : Nat), j + d = a.length → d + 3 ≤ k → spec_RRNone.l0 k a (j : Int) = some ((a.drop j).any noneS || decide (a.length = 0)) := by
  intro d
  induction d with
  | zero =>
    intro j k hj hk
    obtain ⟨k, rfl⟩ : ∃ q, k = q + 1 := ⟨k - 1, by omega⟩
    simp only [spec_RRNone.l0]
    rw [if_neg (by omega), List.drop_eq_nil_of_le (by omega)]
    have hq : ((a.length : Int) == 0) = decide (a.length = 0) := by rw [Bool.eq_iff_iff]; simp only [beq_iff_eq, decide_eq_true_eq]; omega
    rw [hq, List.any_nil, Bool.false_or]
  | succ d ih =>
    intro j k hj hk
    obtain ⟨k, rfl⟩ : ∃ q, k = q + 1 := ⟨k - 1, by omega⟩
    have hlt : j < a.length := by omega
    obtain ⟨f1, f2⟩ := ha a[j] (List.getElem_mem hlt)
    simp only [spec_RRNone.l0]
    rw [if_pos (by omega), if_pos (by omega), rd_at a j hlt, none_fine k (by omega) f1 f2]
    simp only [Option.bind_some]
    rw [List.drop_eq_getElem_cons hlt, List.any_cons]
    by_cases e : plc a[j].f0.f0 a[j].f0.f1 ≥ plc a[j].f1.f0 a[j].f1.f1
    · rw [if_pos (by simp [e])]
      have : noneS a[j] = true := by simp [noneS, lo, hi, e]
      rw [this]; rfl
    · rw [if_neg (by simp [e])]
      have : noneS a[j] = false := by simp [noneS, lo, hi]; omega
      rw [this, w64s j (by omega), ih (j + 1) k (by omega) (by omega), Bool.false_or]
theorem none_list (a : List S44) (ha : ∀ x ∈ a, FineS x) (hl : a.length ≤ 1000) (h0 : 0 < a.length) (k : Nat) (hk : a.length + 3 ≤ k) : spec_RRNone.f k a = some (a.any noneS) := by
  unfold spec_RRNone.f
  have h := none_go a ha hl a.length 0 k (by omega) hk
  have e : decide (a.length = 0) = false := by simp; intro h; subst h; simp at h0
  rw [e, Bool.or_false, List.drop_zero] at h
  exact h
theorem full_any (a : List S44) (ha : ∀ x ∈ a, FullS x) : a.any noneS = false := by
  refine List.any_eq_false.2 fun x hx => ?_
  have h := (ha x hx).lt
  simp [noneS, lo, hi]
  exact h

theorem same_go (m a : List S44) (hm : ∀ x ∈ m, FineS x) (ha : ∀ x ∈ a, FullS x) (he : m.length = a.length) (hl : a.length ≤ 1000) :
    ∀ (d j k : Nat), j + d = a.length → d + 3 ≤ k → spec_RRSame.l0 k m a (j : Int) = some (allS (m.drop j) (a.drop j)) := by
  intro d
  induction d with
  | zero =>
    intro j k hj hk
    obtain ⟨k, rfl⟩ : ∃ q, k = q + 1 := ⟨k - 1, by omega⟩
    simp only [spec_RRSame.l0]
    rw [if_neg (by omega), List.drop_eq_nil_of_le (by omega), List.drop_eq_nil_of_le (by omega)]
    rfl
  | succ d ih =>
    intro j k hj hk
    obtain ⟨k, rfl⟩ : ∃ q, k = q + 1 := ⟨k - 1, by omega⟩
    have hlt : j < a.length := by omega
    have hlm : j < m.length := by omega
    obtain ⟨f1, f2⟩ := hm m[j] (List.getElem_mem hlm)
    have G := ha a[j] (List.getElem_mem hlt)
    simp only [spec_RRSame.l0]
    rw [if_pos (by omega), if_pos (by omega), if_pos (by omega), rd_at a j hlt, rd_at m j hlm, same_fine k (by omega) f1 f2 G]
    simp only [Option.bind_some]
    rw [List.drop_eq_getElem_cons hlt, List.drop_eq_getElem_cons hlm]
    unfold allS
    rw [List.zip_cons_cons, List.all_cons]
    show _ = some (sameS m[j] a[j] && allS (m.drop (j + 1)) (a.drop (j + 1)))
    cases e : sameS m[j] a[j] with
    | true =>
      have e2 : (decide (plc m[j].f0.f0 m[j].f0.f1 = plc a[j].f0.f0 a[j].f0.f1) && decide (plc m[j].f1.f0 m[j].f1.f1 = plc a[j].f1.f0 a[j].f1.f1)) = true := e
      rw [if_pos e2, w64s j (by omega), ih (j + 1) k (by omega) (by omega), Bool.true_and]
    | false =>
      have e2 : (decide (plc m[j].f0.f0 m[j].f0.f1 = plc a[j].f0.f0 a[j].f0.f1) && decide (plc m[j].f1.f0 m[j].f1.f1 = plc a[j].f1.f0 a[j].f1.f1)) = false := e
      rw [if_neg (by rw [e2]; simp), Bool.false_and]
theorem same_list (m a : List S44) (hm : ∀ x ∈ m, FineS x) (ha : ∀ x ∈ a, FullS x) (he : m.length = a.length) (hl : a.length ≤ 1000) (h0 : 0 < a.length) (k : Nat) (hk : a.length + 4 ≤ k) :
    spec_RRSame.f k m a = some (allS m a) := by
  obtain ⟨k, rfl⟩ : ∃ q, k = q + 1 := ⟨k - 1, by omega⟩
  have hg : spec_RRSame.j0 (k + 1) m a false = some (allS m a) := by
    simp only [spec_RRSame.j0]
    rw [if_neg (by simp), if_pos (by omega)]
    exact same_go m a hm ha he hl a.length 0 k (by omega) (by omega)
  unfold spec_RRSame.f
  rw [none_list m hm (by omega) (by omega) (k + 1) (by omega)]
  simp only [Option.bind_some]
  cases m.any noneS with
  | true =>
    rw [if_pos rfl, none_list a (fun x h => (ha x h).fine) hl h0 (k + 1) (by omega), full_any a ha]
    exact hg
  | false => rw [if_neg (by simp)]; exact hg

theorem full_go (l : List S44) (hl : ∀ x ∈ l, WholeS x) (n : Int) (hn : n ≤ 3) :
    ∀ (d j k : Nat) (acc : List S44), acc.length = j → (j : Int) + d = n → 2 * d + 6 ≤ k → (∀ x ∈ acc, FullS x) → ∃ r, laws_rrFull.l0 k l n acc (j : Int) = some r ∧ (r.length : Int) = n ∧ ∀ x ∈ r, FullS x := by
  intro d
  induction d with
  | zero =>
    intro j k acc hac hj hk hf
    obtain ⟨k, rfl⟩ : ∃ q, k = q + 1 := ⟨k - 1, by omega⟩
    simp only [laws_rrFull.l0]
    rw [if_neg (by omega)]
    exact ⟨acc, rfl, by omega, hf⟩
  | succ d ih =>
    intro j k acc hac hj hk hf
    obtain ⟨k, rfl⟩ : ∃ q, k = q + 2 := ⟨k - 2, by omega⟩
    have go : ∀ p q s t : Int, I64 p → I64 q → I64 s → I64 t → ∃ r, laws_rrFull.j1 (k + 1) l n acc (j : Int) p q s t = some r ∧ (r.length : Int) = n ∧ ∀ x ∈ r, FullS x := by
      intro p q s t hp hq hs ht
      simp only [laws_rrFull.j1]
      obtain ⟨p', q', s', t', F, e⟩ := rgFull_full k (by omega) p q s t hp hq hs ht
      rw [e]
      simp only [Option.bind_some]
      rw [if_pos (by omega), w64s j (by omega)]
      refine ih (j + 1) k (acc ++ [⟨⟨p', q'⟩, ⟨s', t'⟩⟩]) (by simp [hac]) (by omega) (by omega) fun x hx => ?_
      rcases List.mem_append.1 hx with h | h
      · exact hf x h
      · rw [List.mem_singleton.1 h]; exact F
    simp only [laws_rrFull.l0]
    rw [if_pos (by omega)]
    by_cases e : (j : Int) < (l.length : Int)
    · have hj2 : j < l.length := by omega
      obtain ⟨w1, w2, w3, w4⟩ := hl l[j] (List.getElem_mem hj2)
      rw [if_pos e, if_pos (by omega), rd_at l j hj2]
      exact go _ _ _ _ w1 w2 w3 w4
    · rw [if_neg e]
      have z : I64 0 := by unfold I64; omega
      exact go _ _ _ _ z z z z
theorem full_list (l : List S44) (hl : ∀ x ∈ l, WholeS x) (n : Int) (h0 : 0 ≤ n) (hn : n ≤ 3) (k : Nat) (hk : 12 ≤ k) : ∃ r, laws_rrFull.f k l n = some r ∧ (r.length : Int) = n ∧ ∀ x ∈ r, FullS x :=
  full_go l hl n hn n.toNat 0 k [] rfl (by omega) (by omega) (by simp)

end Go.Proofs.YtlcoodjkolponaaDoor.PRR
