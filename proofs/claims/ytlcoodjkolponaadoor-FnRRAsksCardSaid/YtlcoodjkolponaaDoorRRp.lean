/-
  What laws.FnRRAsks computes is true: the plain law. No condition beyond the law's own guards.
-/
import Derived.Test.YtlcoodjkolponaaDoorLRRAsksc
import Derived.Test.YtlcoodjkolponaaDoorRRf
import Derived.Test.YtlcoodjkolponaaDoorRRe
namespace Go.Proofs.YtlcoodjkolponaaDoor.PRR
open Go.RowKit Go.Proofs.YtlcoodjkolponaaDoorW.PrintWords Go.Proofs.YtlcoodjkolponaaDoorW.PrintLast Go.Proofs.YtlcoodjkolponaaDoorW.PrintMore
open Go.Proofs.YtlcoodjkolponaaDoor.PRG (C cmpC cmpK)
set_option linter.unusedVariables false
set_option linter.unusedSimpArgs false

/-- A cut as the statement draws it: its kind and its key. -/
def Fine (k x : Int) : Prop := 0 ≤ k ∧ k ≤ 4 ∧ -20 ≤ x ∧ x ≤ 20 ∧ (k ≠ 2 → k ≠ 3 → x = 0)
/-- Its place. -/
def plc (k x : Int) : Int := if k = 0 ∨ k = 1 then k else if k = 2 ∨ k = 3 then 2 * (x + 1001) + k else 10000
theorem w64 {x : Int} (h0 : -9223372036854775808 ≤ x) (h1 : x ≤ 9223372036854775807) : wrap64 x = x := by
  unfold wrap64; omega
/-- A whole number of 64 bits. -/
def I64 (n : Int) : Prop := -9223372036854775808 ≤ n ∧ n ≤ 9223372036854775807

theorem rgCut_fine (a b : Int) (ha : I64 a) (hb : I64 b) : ∃ k x : Int, Fine k x ∧ laws_rgCut.f a b = some (k, x) := by
  unfold I64 at ha hb
  have t5 : ∀ x : Int, -4 ≤ Int.tmod x 5 ∧ Int.tmod x 5 ≤ 4 := fun x => by
    have h := Int.natAbs_tmod x 5
    have h2 : (Int.tmod x 5).natAbs < 5 := by rw [h]; exact Nat.mod_lt _ (by decide)
    omega
  have t41 : ∀ x : Int, -40 ≤ Int.tmod x 41 ∧ Int.tmod x 41 ≤ 40 := fun x => by
    have h := Int.natAbs_tmod x 41
    have h2 : (Int.tmod x 41).natAbs < 41 := by rw [h]; exact Nat.mod_lt _ (by decide)
    omega
  have a1 := t5 a
  have b1 := t41 b
  have e1 : wrap64 (Int.tmod a 5 + 5) = Int.tmod a 5 + 5 := w64 (by omega) (by omega)
  have e2 : wrap64 (Int.tmod b 41 + 41) = Int.tmod b 41 + 41 := w64 (by omega) (by omega)
  have a2 := t5 (Int.tmod a 5 + 5)
  have b2 := t41 (Int.tmod b 41 + 41)
  have a3 : 0 ≤ Int.tmod (Int.tmod a 5 + 5) 5 := Int.tmod_nonneg _ (by omega)
  have b3 : 0 ≤ Int.tmod (Int.tmod b 41 + 41) 41 := Int.tmod_nonneg _ (by omega)
  unfold laws_rgCut.f
  rw [e1, e2]
  generalize Int.tmod (Int.tmod a 5 + 5) 5 = u at *
  generalize Int.tmod (Int.tmod b 41 + 41) 41 = v at *
  rw [w64 (x := v - 20) (by omega) (by omega)]
  by_cases h2 : u = 2
  · rw [if_pos h2]; exact ⟨_, _, ⟨by omega, by omega, by omega, by omega, by omega⟩, rfl⟩
  · rw [if_neg h2]
    by_cases h3 : u = 3
    · rw [if_pos h3]; exact ⟨_, _, ⟨by omega, by omega, by omega, by omega, by omega⟩, rfl⟩
    · rw [if_neg h3]; exact ⟨_, _, ⟨by omega, by omega, by omega, by omega, by omega⟩, rfl⟩

theorem place_fine (n : Nat) (hn : 2 ≤ n) (k x : Int) (h : Fine k x) : spec_RGPlace.f n k x = some (plc k x) := by
  obtain ⟨n, rfl⟩ : ∃ j, n = j + 2 := ⟨n - 2, by omega⟩
  obtain ⟨h0, h1, h2, h3, h4⟩ := h
  unfold spec_RGPlace.f plc
  have : k = 0 ∨ k = 1 ∨ k = 2 ∨ k = 3 ∨ k = 4 := by omega
  rcases this with rfl | rfl | rfl | rfl | rfl <;> simp [spec_RGPlace.j0, spec_RGPlace.j1]
  all_goals (rw [w64 (x := x + 1001) (by omega) (by omega), w64 (x := 2 * (x + 1001)) (by omega) (by omega), w64 (by omega) (by omega)])

def sgn (x : Int) : Int := if x < 0 then -1 else if x > 0 then 1 else 0
theorem cmp_sgn (k x l y : Int) (hx : Fine k x) (hy : Fine l y) : cmpC (C.of k x) (C.of l y) = sgn (plc k x - plc l y) := by
  obtain ⟨h0, h1, h2, h3, h4⟩ := hx
  obtain ⟨g0, g1, g2, g3, g4⟩ := hy
  have hx : k = 0 ∨ k = 1 ∨ k = 2 ∨ k = 3 ∨ k = 4 := by omega
  have hy : l = 0 ∨ l = 1 ∨ l = 2 ∨ l = 3 ∨ l = 4 := by omega
  rcases hx with rfl | rfl | rfl | rfl | rfl <;> rcases hy with rfl | rfl | rfl | rfl | rfl <;> simp [C.of, cmpC, plc, sgn, cmpK] <;> (repeat' split) <;> omega
theorem sgn_0 (z : Int) : (sgn z == 0) = decide (z = 0) := by
  rw [Bool.eq_iff_iff]; simp only [beq_iff_eq, decide_eq_true_eq]; unfold sgn; repeat' split
  all_goals omega
theorem sgn_m (z : Int) : (sgn z == -1) = decide (z < 0) := by
  rw [Bool.eq_iff_iff]; simp only [beq_iff_eq, decide_eq_true_eq]; unfold sgn; repeat' split
  all_goals omega
theorem sgn_1 (z : Int) : (sgn z == 1) = decide (0 < z) := by
  rw [Bool.eq_iff_iff]; simp only [beq_iff_eq, decide_eq_true_eq]; unfold sgn; repeat' split
  all_goals omega
theorem sgn_pos (z : Int) : decide (0 < sgn z) = decide (0 < z) := by
  rw [Bool.eq_iff_iff]; simp only [decide_eq_true_eq]; unfold sgn; repeat' split
  all_goals omega
theorem sgn_le (z : Int) : decide (sgn z ≤ 0) = decide (z ≤ 0) := by
  rw [Bool.eq_iff_iff]; simp only [decide_eq_true_eq]; unfold sgn; repeat' split
  all_goals omega
theorem sgn_ge (z : Int) : decide (0 ≤ sgn z) = decide (0 ≤ z) := by
  rw [Bool.eq_iff_iff]; simp only [decide_eq_true_eq]; unfold sgn; repeat' split
  all_goals omega

/-- A range as the statement draws it. -/
structure Full (k x l y : Int) : Prop where
  lo : Fine k x
  hi : Fine l y
  lt : plc k x < plc l y

theorem rgFull_full (n : Nat) (hn : 4 ≤ n) (a b c d : Int) (ha : I64 a) (hb : I64 b) (hc : I64 c) (hd : I64 d) :
    ∃ k x l y, Full k x l y ∧ laws_rgFull.f n a b c d = some (k, x, l, y) := by
  obtain ⟨n, rfl⟩ : ∃ j, n = j + 1 := ⟨n - 1, by omega⟩
  obtain ⟨k, x, f1, e1⟩ := rgCut_fine a b ha hb
  obtain ⟨l, y, f2, e2⟩ := rgCut_fine c d hc hd
  have zero : Full 0 0 4 0 := ⟨⟨by omega, by omega, by omega, by omega, by omega⟩, ⟨by omega, by omega, by omega, by omega, by omega⟩, by simp [plc]⟩
  have j : ∀ k x l y, Fine k x → Fine l y → plc k x ≤ plc l y → ∃ k' x' l' y', Full k' x' l' y' ∧ laws_rgFull.j0 (n + 1) k x l y = some (k', x', l', y') := by
    intro k x l y f1 f2 hle
    simp only [laws_rgFull.j0]
    rw [place_fine n (by omega) k x f1]
    simp only [Option.bind_some]
    rw [place_fine n (by omega) l y f2]
    simp only [Option.bind_some]
    by_cases e : plc k x = plc l y
    · rw [if_pos e]; exact ⟨_, _, _, _, zero, rfl⟩
    · rw [if_neg e]; exact ⟨_, _, _, _, ⟨f1, f2, by omega⟩, rfl⟩
  unfold laws_rgFull.f
  rw [e1, e2]
  simp only [Option.bind_some]
  rw [place_fine (n + 1) (by omega) k x f1]
  simp only [Option.bind_some]
  rw [place_fine (n + 1) (by omega) l y f2]
  simp only [Option.bind_some]
  by_cases e : plc k x > plc l y
  · rw [if_pos e]; exact j l y k x f2 f1 (by omega)
  · rw [if_neg e]; exact j k x l y f1 f2 (by omega)

theorem ends_fine (n : Nat) (hn : 2 ≤ n) {k x l y : Int} (f1 : Fine k x) (f2 : Fine l y) : spec_RGEnds.f n k x l y = some (plc k x, plc l y) := by
  unfold spec_RGEnds.f
  rw [place_fine n hn k x f1]
  simp only [Option.bind_some]
  rw [place_fine n hn l y f2]
  rfl
theorem none_fine (n : Nat) (hn : 2 ≤ n) {k x l y : Int} (f1 : Fine k x) (f2 : Fine l y) : spec_RGNone.f n k x l y = some (decide (plc k x ≥ plc l y)) := by
  unfold spec_RGNone.f
  rw [ends_fine n hn f1 f2]
  rfl
theorem same_fine (n : Nat) (hn : 2 ≤ n) {k x l y k' x' l' y' : Int} (f1 : Fine k x) (f2 : Fine l y) (G : Full k' x' l' y') :
    spec_RGSame.f n k x l y k' x' l' y' = some (decide (plc k x = plc k' x') && decide (plc l y = plc l' y')) := by
  have g := G.lt
  unfold spec_RGSame.f
  rw [ends_fine n hn f1 f2, ends_fine n hn G.lo G.hi, none_fine n hn f1 f2, none_fine n hn G.lo G.hi]
  simp only [Option.bind_some]
  have hb : ∀ a b : Int, (a == b) = decide (a = b) := fun a b => by rw [Bool.eq_iff_iff]; simp
  have q : ¬ (decide (plc k' x' ≥ plc l' y') = true) := by simp; omega
  rw [if_neg q]
  by_cases e : plc k x = plc k' x'
  · rw [if_pos e, e]; simp [hb]
  · rw [if_neg e]; simp [e]

def FineS (x : S44) : Prop := Fine x.f0.f0 x.f0.f1 ∧ Fine x.f1.f0 x.f1.f1
def FullS (x : S44) : Prop := Full x.f0.f0 x.f0.f1 x.f1.f0 x.f1.f1
def WholeS (x : S44) : Prop := I64 x.f0.f0 ∧ I64 x.f0.f1 ∧ I64 x.f1.f0 ∧ I64 x.f1.f1
def lo (x : S44) : Int := plc x.f0.f0 x.f0.f1
def hi (x : S44) : Int := plc x.f1.f0 x.f1.f1
def noneS (x : S44) : Bool := decide (lo x ≥ hi x)
def sameS (x y : S44) : Bool := decide (lo x = lo y) && decide (hi x = hi y)
def allS (a b : List S44) : Bool := (a.zip b).all fun z => sameS z.1 z.2
theorem FullS.fine {x : S44} (h : FullS x) : FineS x := ⟨h.lo, h.hi⟩
theorem rd_at (a : List S44) (j : Nat) (h : j < a.length) : rd_T44 a (j : Int) = a[j] := by
  simp [rd_T44, List.getD_eq_getElem?_getD, List.getElem?_eq_getElem h]
theorem w64s (j : Nat) (h : j ≤ 2147483647) : wrap64 ((j : Int) + 1) = ((j + 1 : Nat) : Int) := by rw [w64 (by omega) (by omega)]; rfl

theorem none_go (a : List S44) (ha : ∀ x ∈ a, FineS x) (hl : a.length ≤ 1000) :
    ∀ (d j k : Nat), j + d = a.length → d + 3 ≤ k → spec_RRNone.l0 k a (j : Int) = some ((a.drop j).any noneS || decide (a.length = 0)) := by
  intro d
  induction d with
  | zero =>
    intro j k hj hk
    obtain ⟨k, rfl⟩ : ∃ q, k = q + 1 := ⟨k - 1, by omega⟩
    simp only [spec_RRNone.l0]
    rw [if_neg (by omega), List.drop_eq_nil_of_le (by omega)]
    have hq : ((a.length : Int) == 0) = decide (a.length = 0) := by rw [Bool.eq_iff_iff]; simp only [beq_iff_eq, decide_eq_true_eq]; omega
    rw [hq, List.any_nil, Bool.false_or]
  | succ d ih =>
    intro j k hj hk
    obtain ⟨k, rfl⟩ : ∃ q, k = q + 1 := ⟨k - 1, by omega⟩
    have hlt : j < a.length := by omega
    obtain ⟨f1, f2⟩ := ha a[j] (List.getElem_mem hlt)
    simp only [spec_RRNone.l0]
    rw [if_pos (by omega), if_pos (by omega), rd_at a j hlt, none_fine k (by omega) f1 f2]
    simp only [Option.bind_some]
    rw [List.drop_eq_getElem_cons hlt, List.any_cons]
    by_cases e : plc a[j].f0.f0 a[j].f0.f1 ≥ plc a[j].f1.f0 a[j].f1.f1
    · rw [if_pos (by simp [e])]
      have : noneS a[j] = true := by simp [noneS, lo, hi, e]
      rw [this]; rfl
    · rw [if_neg (by simp [e])]
      have : noneS a[j] = false := by simp [noneS, lo, hi]; omega
      rw [this, w64s j (by omega), ih (j + 1) k (by omega) (by omega), Bool.false_or]
theorem none_list (a : List S44) (ha : ∀ x ∈ a, FineS x) (hl : a.length ≤ 1000) (h0 : 0 < a.length) (k : Nat) (hk : a.length + 3 ≤ k) : spec_RRNone.f k a = some (a.any noneS) := by
  unfold spec_RRNone.f
  have h := none_go a ha hl a.length 0 k (by omega) hk
  have e : decide (a.length = 0) = false := by simp; intro h; subst h; simp at h0
  rw [e, Bool.or_false, List.drop_zero] at h
  exact h
theorem full_any (a : List S44) (ha : ∀ x ∈ a, FullS x) : a.any noneS = false := by
  refine List.any_eq_false.2 fun x hx => ?_
  have h := (ha x hx).lt
  simp [noneS, lo, hi]
  exact h

theorem same_go (m a : List S44) (hm : ∀ x ∈ m, FineS x) (ha : ∀ x ∈ a, FullS x) (he : m.length = a.length) (hl : a.length ≤ 1000) :
    ∀ (d j k : Nat), j + d = a.length → d + 3 ≤ k → spec_RRSame.l0 k m a (j : Int) = some (allS (m.drop j) (a.drop j)) := by
  intro d
  induction d with
  | zero =>
    intro j k hj hk
    obtain ⟨k, rfl⟩ : ∃ q, k = q + 1 := ⟨k - 1, by omega⟩
    simp only [spec_RRSame.l0]
    rw [if_neg (by omega), List.drop_eq_nil_of_le (by omega), List.drop_eq_nil_of_le (by omega)]
    rfl
  | succ d ih =>
    intro j k hj hk
    obtain ⟨k, rfl⟩ : ∃ q, k = q + 1 := ⟨k - 1, by omega⟩
    have hlt : j < a.length := by omega
    have hlm : j < m.length := by omega
    obtain ⟨f1, f2⟩ := hm m[j] (List.getElem_mem hlm)
    have G := ha a[j] (List.getElem_mem hlt)
    simp only [spec_RRSame.l0]
    rw [if_pos (by omega), if_pos (by omega), if_pos (by omega), rd_at a j hlt, rd_at m j hlm, same_fine k (by omega) f1 f2 G]
    simp only [Option.bind_some]
    rw [List.drop_eq_getElem_cons hlt, List.drop_eq_getElem_cons hlm]
    unfold allS
    rw [List.zip_cons_cons, List.all_cons]
    show _ = some (sameS m[j] a[j] && allS (m.drop (j + 1)) (a.drop (j + 1)))
    cases e : sameS m[j] a[j] with
    | true =>
      have e2 : (decide (plc m[j].f0.f0 m[j].f0.f1 = plc a[j].f0.f0 a[j].f0.f1) && decide (plc m[j].f1.f0 m[j].f1.f1 = plc a[j].f1.f0 a[j].f1.f1)) = true := e
      rw [if_pos e2, w64s j (by omega), ih (j + 1) k (by omega) (by omega), Bool.true_and]
    | false =>
      have e2 : (decide (plc m[j].f0.f0 m[j].f0.f1 = plc a[j].f0.f0 a[j].f0.f1) && decide (plc m[j].f1.f0 m[j].f1.f1 = plc a[j].f1.f0 a[j].f1.f1)) = false := e
      rw [if_neg (by rw [e2]; simp), Bool.false_and]
theorem same_list (m a : List S44) (hm : ∀ x ∈ m, FineS x) (ha : ∀ x ∈ a, FullS x) (he : m.length = a.length) (hl : a.length ≤ 1000) (h0 : 0 < a.length) (k : Nat) (hk : a.length + 4 ≤ k) :
    spec_RRSame.f k m a = some (allS m a) := by
  obtain ⟨k, rfl⟩ : ∃ q, k = q + 1 := ⟨k - 1, by omega⟩
  have hg : spec_RRSame.j0 (k + 1) m a false = some (allS m a) := by
    simp only [spec_RRSame.j0]
    rw [if_neg (by simp), if_pos (by omega)]
    exact same_go m a hm ha he hl a.length 0 k (by omega) (by omega)
  unfold spec_RRSame.f
  rw [none_list m hm (by omega) (by omega) (k + 1) (by omega)]
  simp only [Option.bind_some]
  cases m.any noneS with
  | true =>
    rw [if_pos rfl, none_list a (fun x h => (ha x h).fine) hl h0 (k + 1) (by omega), full_any a ha]
    exact hg
  | false => rw [if_neg (by simp)]; exact hg

/-- What two lists of ranges have in common, column by column. -/
def MeetOf : List S44 → List S44 → List S44 → Prop
  | [], [], [] => True
  | r :: rs, x :: xs, y :: ys => FineS r ∧ lo r = max (lo x) (lo y) ∧ hi r = min (hi x) (hi y) ∧ MeetOf rs xs ys
  | _, _, _ => False
theorem meet_len : ∀ (m a b : List S44), MeetOf m a b → m.length = a.length ∧ ∀ x ∈ m, FineS x
  | [], [], [], _ => ⟨rfl, by simp⟩
  | r :: rs, x :: xs, y :: ys, h => by
    obtain ⟨h1, h2⟩ := meet_len rs xs ys h.2.2.2
    refine ⟨by simp [h1], fun z hz => ?_⟩
    rcases List.mem_cons.1 hz with rfl | hz
    · exact h.1
    · exact h2 z hz
  | [], _ :: _, _, h => by simp [MeetOf] at h
  | [], [], _ :: _, h => by simp [MeetOf] at h
  | _ :: _, [], _, h => by simp [MeetOf] at h
  | _ :: _, _ :: _, [], h => by simp [MeetOf] at h

theorem meet_one (n : Nat) (hn : 3 ≤ n) {k x l y k' x' l' y' : Int} (Fa : Fine k x) (Fb : Fine l y) (Ga : Fine k' x') (Gb : Fine l' y') :
    ∃ a b c d, Fine a b ∧ Fine c d ∧ spec_RGMeet.f n k x l y k' x' l' y' = some (a, b, c, d) ∧ plc a b = max (plc k x) (plc k' x') ∧ plc c d = min (plc l y) (plc l' y') := by
  obtain ⟨n, rfl⟩ : ∃ j, n = j + 1 := ⟨n - 1, by omega⟩
  have j : ∀ a b, Fine a b → ∃ c d, Fine c d ∧ spec_RGMeet.j0 (n + 1) a b l y k' x' l' y' = some (a, b, c, d) ∧ plc c d = min (plc l y) (plc l' y') := by
    intro a b _
    simp only [spec_RGMeet.j0]
    rw [place_fine n (by omega) l' y' Gb]
    simp only [Option.bind_some]
    rw [place_fine n (by omega) l y Fb]
    simp only [Option.bind_some]
    by_cases e : plc l' y' < plc l y
    · rw [if_pos e]; exact ⟨_, _, Gb, rfl, by omega⟩
    · rw [if_neg e]; exact ⟨_, _, Fb, rfl, by omega⟩
  unfold spec_RGMeet.f
  rw [place_fine (n + 1) (by omega) k' x' Ga]
  simp only [Option.bind_some]
  rw [place_fine (n + 1) (by omega) k x Fa]
  simp only [Option.bind_some]
  by_cases e : plc k' x' > plc k x
  · rw [if_pos e]
    obtain ⟨c, d, f, e1, e2⟩ := j k' x' Ga
    exact ⟨_, _, c, d, Ga, f, e1, by omega, e2⟩
  · rw [if_neg e]
    obtain ⟨c, d, f, e1, e2⟩ := j k x Fa
    exact ⟨_, _, c, d, Fa, f, e1, by omega, e2⟩

theorem meet_go (a b : List S44) (ha : ∀ x ∈ a, FineS x) (hb : ∀ x ∈ b, FineS x) (he : a.length = b.length) (hl : a.length ≤ 1000) :
    ∀ (d j k : Nat) (acc : List S44), acc.length = j → j + d = a.length → d + 4 ≤ k → ∃ r, spec_RRMeet.l0 k a b acc (j : Int) = some (acc ++ r) ∧ MeetOf r (a.drop j) (b.drop j) := by
  intro d
  induction d with
  | zero =>
    intro j k acc hac hj hk
    obtain ⟨k, rfl⟩ : ∃ q, k = q + 1 := ⟨k - 1, by omega⟩
    simp only [spec_RRMeet.l0]
    rw [if_neg (by omega), List.drop_eq_nil_of_le (by omega), List.drop_eq_nil_of_le (by omega)]
    exact ⟨[], by simp, trivial⟩
  | succ d ih =>
    intro j k acc hac hj hk
    obtain ⟨k, rfl⟩ : ∃ q, k = q + 1 := ⟨k - 1, by omega⟩
    have hla : j < a.length := by omega
    have hlb : j < b.length := by omega
    obtain ⟨f1, f2⟩ := ha a[j] (List.getElem_mem hla)
    obtain ⟨g1, g2⟩ := hb b[j] (List.getElem_mem hlb)
    simp only [spec_RRMeet.l0]
    rw [if_pos (by omega), if_pos (by omega), if_pos (by omega), rd_at a j hla, rd_at b j hlb]
    obtain ⟨p, q, s, t, h1, h2, h3, h4, h5⟩ := meet_one k (by omega) f1 f2 g1 g2
    rw [h3]
    simp only [Option.bind_some]
    rw [if_pos (by omega), w64s j (by omega)]
    obtain ⟨r, e, hr⟩ := ih (j + 1) k (acc ++ [⟨⟨p, q⟩, ⟨s, t⟩⟩]) (by simp [hac]) (by omega) (by omega)
    refine ⟨⟨⟨p, q⟩, ⟨s, t⟩⟩ :: r, by rw [e]; simp, ?_⟩
    rw [List.drop_eq_getElem_cons hla, List.drop_eq_getElem_cons hlb]
    exact ⟨⟨h1, h2⟩, h4, h5, hr⟩
theorem meet_list (a b : List S44) (ha : ∀ x ∈ a, FineS x) (hb : ∀ x ∈ b, FineS x) (he : a.length = b.length) (hl : a.length ≤ 1000) (k : Nat) (hk : a.length + 4 ≤ k) :
    ∃ r, spec_RRMeet.f k a b = some r ∧ MeetOf r a b := by
  obtain ⟨r, h1, h2⟩ := meet_go a b ha hb he hl a.length 0 k [] rfl (by omega) hk
  refine ⟨r, ?_, by simpa using h2⟩
  unfold spec_RRMeet.f
  simpa using h1
theorem under_list (a b : List S44) (ha : ∀ x ∈ a, FullS x) (hb : ∀ x ∈ b, FullS x) (he : a.length = b.length) (hl : a.length ≤ 1000) (h0 : 0 < a.length) (k : Nat) (hk : a.length + 4 ≤ k) :
    ∃ m, MeetOf m a b ∧ spec_RRMeet.f k a b = some m ∧ spec_RRUnder.f k a b = some (allS m a) := by
  obtain ⟨m, h1, h2⟩ := meet_list a b (fun x h => (ha x h).fine) (fun x h => (hb x h).fine) he hl k hk
  refine ⟨m, h2, h1, ?_⟩
  obtain ⟨l1, l2⟩ := meet_len m a b h2
  unfold spec_RRUnder.f
  rw [none_list a (fun x h => (ha x h).fine) hl h0 k (by omega), full_any a ha]
  simp only [Option.bind_some]
  rw [if_neg (by simp), h1]
  simp only [Option.bind_some]
  rw [same_list m a l2 ha l1 hl h0 k hk]
  rfl

theorem full_go (l : List S44) (hl : ∀ x ∈ l, WholeS x) (n : Int) (hn : n ≤ 3) :
    ∀ (d j k : Nat) (acc : List S44), acc.length = j → (j : Int) + d = n → 2 * d + 6 ≤ k → (∀ x ∈ acc, FullS x) → ∃ r, laws_rrFull.l0 k l n acc (j : Int) = some r ∧ (r.length : Int) = n ∧ ∀ x ∈ r, FullS x := by
  intro d
  induction d with
  | zero =>
    intro j k acc hac hj hk hf
    obtain ⟨k, rfl⟩ : ∃ q, k = q + 1 := ⟨k - 1, by omega⟩
    simp only [laws_rrFull.l0]
    rw [if_neg (by omega)]
    exact ⟨acc, rfl, by omega, hf⟩
  | succ d ih =>
    intro j k acc hac hj hk hf
    obtain ⟨k, rfl⟩ : ∃ q, k = q + 2 := ⟨k - 2, by omega⟩
    have go : ∀ p q s t : Int, I64 p → I64 q → I64 s → I64 t → ∃ r, laws_rrFull.j1 (k + 1) l n acc (j : Int) p q s t = some r ∧ (r.length : Int) = n ∧ ∀ x ∈ r, FullS x := by
      intro p q s t hp hq hs ht
      simp only [laws_rrFull.j1]
      obtain ⟨p', q', s', t', F, e⟩ := rgFull_full k (by omega) p q s t hp hq hs ht
      rw [e]
      simp only [Option.bind_some]
      rw [if_pos (by omega), w64s j (by omega)]
      refine ih (j + 1) k (acc ++ [⟨⟨p', q'⟩, ⟨s', t'⟩⟩]) (by simp [hac]) (by omega) (by omega) fun x hx => ?_
      rcases List.mem_append.1 hx with h | h
      · exact hf x h
      · rw [List.mem_singleton.1 h]; exact F
    simp only [laws_rrFull.l0]
    rw [if_pos (by omega)]
    by_cases e : (j : Int) < (l.length : Int)
    · have hj2 : j < l.length := by omega
      obtain ⟨w1, w2, w3, w4⟩ := hl l[j] (List.getElem_mem hj2)
      rw [if_pos e, if_pos (by omega), rd_at l j hj2]
      exact go _ _ _ _ w1 w2 w3 w4
    · rw [if_neg e]
      have z : I64 0 := by unfold I64; omega
      exact go _ _ _ _ z z z z
theorem full_list (l : List S44) (hl : ∀ x ∈ l, WholeS x) (n : Int) (h0 : 0 ≤ n) (hn : n ≤ 3) (k : Nat) (hk : 12 ≤ k) : ∃ r, laws_rrFull.f k l n = some r ∧ (r.length : Int) = n ∧ ∀ x ∈ r, FullS x :=
  full_go l hl n hn n.toNat 0 k [] rfl (by omega) (by omega) (by simp)

theorem eq_one {x y : S44} (F : FullS x) (G : FullS y) : eqE (toC x) (toC y) = sameS x y := by
  unfold eqE toC sameS lo hi
  rw [cmp_sgn _ _ _ _ F.lo G.lo, cmp_sgn _ _ _ _ F.hi G.hi, sgn_0, sgn_0]
  rw [Bool.eq_iff_iff]; simp only [Bool.and_eq_true, decide_eq_true_eq]; omega
theorem eq_list : ∀ (a b : List S44), (∀ x ∈ a, FullS x) → (∀ x ∈ b, FullS x) → all2 eqE (a.map toC) (b.map toC) = allS a b
  | [], _, _, _ => rfl
  | _ :: _, [], _, _ => rfl
  | x :: xs, y :: ys, ha, hb => by
    have ih := eq_list xs ys (fun z h => ha z (List.mem_cons_of_mem _ h)) (fun z h => hb z (List.mem_cons_of_mem _ h))
    show (eqE (toC x) (toC y) && all2 eqE (xs.map toC) (ys.map toC)) = (sameS x y && allS xs ys)
    rw [ih, eq_one (ha x List.mem_cons_self) (hb y List.mem_cons_self)]
theorem sub_one {r x y : S44} (F : FullS x) (G : FullS y) (h1 : lo r = max (lo x) (lo y)) (h2 : hi r = min (hi x) (hi y)) : subE (toC x) (toC y) = sameS r x := by
  unfold subE sameS
  rw [h1, h2]
  unfold toC lo hi
  rw [cmp_sgn _ _ _ _ F.lo G.lo, cmp_sgn _ _ _ _ F.hi G.hi, sgn_m, sgn_1]
  rw [Bool.eq_iff_iff]; simp only [Bool.and_eq_true, decide_eq_true_eq, Bool.not_eq_true', decide_eq_false_iff_not]; omega
theorem sub_list : ∀ (m a b : List S44), MeetOf m a b → (∀ x ∈ a, FullS x) → (∀ x ∈ b, FullS x) → all2 subE (a.map toC) (b.map toC) = allS m a
  | [], [], [], _, _, _ => rfl
  | r :: rs, x :: xs, y :: ys, h, ha, hb => by
    have ih := sub_list rs xs ys h.2.2.2 (fun z h => ha z (List.mem_cons_of_mem _ h)) (fun z h => hb z (List.mem_cons_of_mem _ h))
    show (subE (toC x) (toC y) && all2 subE (xs.map toC) (ys.map toC)) = (sameS r x && allS rs xs)
    rw [ih, sub_one (ha x List.mem_cons_self) (hb y List.mem_cons_self) h.2.1 h.2.2.1]
  | [], _ :: _, _, h, _, _ => by simp [MeetOf] at h
  | [], [], _ :: _, h, _, _ => by simp [MeetOf] at h
  | _ :: _, [], _, h, _, _ => by simp [MeetOf] at h
  | _ :: _, _ :: _, [], h, _, _ => by simp [MeetOf] at h
theorem ov_one {r x y : S44} (F : FullS x) (G : FullS y) (h1 : lo r = max (lo x) (lo y)) (h2 : hi r = min (hi x) (hi y)) : ovE (toC x) (toC y) = !noneS r := by
  have f := F.lt
  have g := G.lt
  unfold ovE noneS
  rw [h1, h2]
  unfold toC lo hi
  rw [cmp_sgn _ _ _ _ F.lo G.hi, cmp_sgn _ _ _ _ G.lo F.hi, sgn_ge, sgn_ge]
  rw [Bool.eq_iff_iff]; simp only [Bool.and_eq_true, decide_eq_true_eq, Bool.not_eq_true', decide_eq_false_iff_not]; omega
theorem ov_list : ∀ (m a b : List S44), MeetOf m a b → (∀ x ∈ a, FullS x) → (∀ x ∈ b, FullS x) → all2 ovE (a.map toC) (b.map toC) = !(m.any noneS)
  | [], [], [], _, _, _ => rfl
  | r :: rs, x :: xs, y :: ys, h, ha, hb => by
    have ih := ov_list rs xs ys h.2.2.2 (fun z h => ha z (List.mem_cons_of_mem _ h)) (fun z h => hb z (List.mem_cons_of_mem _ h))
    show (ovE (toC x) (toC y) && all2 ovE (xs.map toC) (ys.map toC)) = _
    rw [ih, ov_one (ha x List.mem_cons_self) (hb y List.mem_cons_self) h.2.1 h.2.2.1, List.any_cons, Bool.not_or]
  | [], _ :: _, _, h, _, _ => by simp [MeetOf] at h
  | [], [], _ :: _, h, _, _ => by simp [MeetOf] at h
  | _ :: _, [], _, h, _, _ => by simp [MeetOf] at h
  | _ :: _, _ :: _, [], h, _, _ => by simp [MeetOf] at h
theorem none_any (a : List S44) (ha : ∀ x ∈ a, FullS x) : (a.map toC).any noneE = false := by
  rw [List.any_map]
  refine List.any_eq_false.2 fun x hx => ?_
  have F := ha x hx
  have h := F.lt
  show ¬ noneE (toC x) = true
  unfold noneE toC
  rw [cmp_sgn _ _ _ _ F.lo F.hi, sgn_ge]
  simp; omega
theorem all_self (a : List S44) : allS a a = true := by
  induction a with
  | nil => rfl
  | cons x xs ih =>
    show (sameS x x && allS xs xs) = true
    rw [ih]; simp [sameS]

theorem Pure_FnRRAsks (l0 l1 : List S44) (u : Int) (h0 : ∀ x ∈ l0, WholeS x) (h1 : ∀ x ∈ l1, WholeS x) (hu : 0 ≤ u ∧ u ≤ 255) : laws_FnRRAsks.f 20 l0 l1 u = some true := by
  have small : laws_FnRRAsks.j0 20 l0 l1 u false = some true := by
    have ht : 0 ≤ Int.tmod u 3 ∧ Int.tmod u 3 < 3 := ⟨Int.tmod_nonneg _ hu.1, Int.tmod_lt_of_pos _ (by omega)⟩
    have e : wrap64 (1 + Int.tmod (wrap64 u) 3) = 1 + Int.tmod u 3 := by rw [w64 (x := u) (by omega) (by omega), w64 (by omega) (by omega)]
    simp only [laws_FnRRAsks.j0]
    rw [if_neg (by simp), e]
    generalize Int.tmod u 3 = c at *
    obtain ⟨a, ea, la, fa⟩ := full_list l0 h0 (1 + c) (by omega) (by omega) 19 (by omega)
    obtain ⟨b, eb, lb, fb⟩ := full_list l1 h1 (1 + c) (by omega) (by omega) 19 (by omega)
    rw [ea]
    simp only [Option.bind_some]
    rw [eb]
    simp only [Option.bind_some]
    have hab : a.length = b.length := by omega
    have ha1 : a.length ≤ 1000 := by omega
    have ha0 : 0 < a.length := by omega
    have E1 : impl_RREquals.f a b = some (allS a b, true) := by unfold impl_RREquals.f; rw [if_pos ⟨ha1, hab⟩, eq_list a b fa fb]
    have E7 : impl_RREquals.f a a = some (true, true) := by unfold impl_RREquals.f; rw [if_pos ⟨ha1, rfl⟩, eq_list a a fa fa, all_self]
    obtain ⟨m, hm, em, eu⟩ := under_list a b fa fb hab ha1 ha0 19 (by omega)
    obtain ⟨m', hm', em', eu'⟩ := under_list b a fb fa hab.symm (by omega) (by omega) 19 (by omega)
    have E2 : impl_RRSubset.f a b = some (allS m a, true) := by unfold impl_RRSubset.f; rw [if_pos ⟨ha1, hab⟩, sub_list m a b hm fa fb]
    have E3 : impl_RRSuperset.f a b = some (allS m' b, true) := by unfold impl_RRSuperset.f; rw [if_pos ⟨ha1, hab⟩, sub_list m' b a hm' fb fa]
    have E4 : impl_RROverlaps.f a b = some (!(m.any noneS), true) := by unfold impl_RROverlaps.f; rw [if_pos ⟨ha1, hab⟩, ov_list m a b hm fa fb]
    have E6 : impl_RRConnected.f a b = some (!(m.any noneS), true) := by unfold impl_RRConnected.f; rw [if_pos ⟨ha1, hab⟩, ov_list m a b hm fa fb]
    have E5 : impl_RREmpty.f a = some (false, true) := by unfold impl_RREmpty.f; rw [if_pos ⟨ha1, ha0⟩, none_any a fa]
    obtain ⟨l1', l2'⟩ := meet_len m a b hm
    have E8 : spec_RRNone.f 19 m = some (m.any noneS) := none_list m l2' (by omega) (by omega) 19 (by omega)
    have E9 : spec_RRSame.f 19 a b = some (allS a b) := same_list a b (fun x h => (fa x h).fine) fb hab (by omega) (by omega) 19 (by omega)
    rw [E1, E2, E3, E4, E5, E6, E7, E9, eu, eu', em]
    simp [E8]
  unfold laws_FnRRAsks.f
  have big : laws_FnRRAsks.j0 20 l0 l1 u true = some true := by simp [laws_FnRRAsks.j0]
  by_cases e : (l0.length : Int) > 2147483647
  · rw [if_pos e]; exact big
  · rw [if_neg e]
    by_cases e2 : (l1.length : Int) > 2147483647
    · rw [show decide ((l1.length : Int) > 2147483647) = true from by simp [e2]]; exact big
    · rw [show decide ((l1.length : Int) > 2147483647) = false from by simp only [decide_eq_false_iff_not]; exact e2]; exact small
end Go.Proofs.YtlcoodjkolponaaDoor.PRR
