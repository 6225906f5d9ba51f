/-
  Sets of columns that are equivalent are joined as soon as they meet: the plain law. No condition beyond the law's own guards.
-/
import Derived.Test.YtlghbhkpdlkhjaaDoorPureEQa
namespace Go.Proofs.YtlghbhkpdlkhjaaDoor.PEQ
open Go.RowKit Go.Proofs.YtlghbhkpdlkhjaaDoorW.PrintWords Go.Proofs.YtlghbhkpdlkhjaaDoorW.PrintLast
open Go.Proofs.YtlghbhkpdlkhjaaDoor.PIS (sorted_ext)
set_option linter.unusedVariables false
set_option linter.unusedSimpArgs false
set_option maxRecDepth 10000

theorem mk_bit : ∀ (l : List Int) (m : Nat) (j : Nat), (∀ x ∈ l, 1 ≤ x ∧ x ≤ 64) → ((l.foldl (fun m x => m ||| 2 ^ (x - 1).toNat) m).testBit j = true ↔ m.testBit j = true ∨ ((j : Int) + 1) ∈ l)
  | [], m, j, _ => by simp
  | x :: t, m, j, hb => by
    have hx := hb x (List.mem_cons_self ..)
    rw [List.foldl_cons, mk_bit t _ j (fun y hy => hb y (List.mem_cons_of_mem _ hy)), Nat.testBit_or, Bool.or_eq_true, Nat.testBit_two_pow, decide_eq_true_eq, List.mem_cons]
    constructor
    · rintro ((h | h) | h)
      · exact .inl h
      · exact .inr (.inl (by omega))
      · exact .inr (.inr h)
    · rintro (h | h | h)
      · exact .inl (.inl h)
      · exact .inl (.inr (by omega))
      · exact .inr h
/-- a set in the specification: rising columns from 1 to 64 -/
def SetM (s : List Int) : Prop := s.Pairwise (· < ·) ∧ (∀ x ∈ s, 1 ≤ x ∧ x ≤ 64)
theorem SetM.bit {s : List Int} (h : SetM s) (j : Nat) : (mk s).testBit j = true ↔ ((j : Int) + 1) ∈ s := by
  have := mk_bit s 0 j h.2
  rw [Nat.zero_testBit] at this
  simpa [mk] using this
theorem SetM.lt {s : List Int} (h : SetM s) : mk s < big := mk_big s h.2
theorem cols_mem (m : Nat) (y : Int) : y ∈ colsOf m ↔ ∃ j : Nat, y = (j : Int) + 1 ∧ j < 64 ∧ m.testBit j = true := by
  unfold colsOf
  rw [List.mem_map]
  constructor
  · rintro ⟨x, hx, rfl⟩
    obtain ⟨j, rfl, h1, h2⟩ := (bitsL_bits m x).1 hx
    exact ⟨j, rfl, h1, h2⟩
  · rintro ⟨j, rfl, h1, h2⟩
    exact ⟨(j : Int), (bitsL_bits m _).2 ⟨j, rfl, h1, h2⟩, rfl⟩
theorem cols_setM (m : Nat) : SetM (colsOf m) := by
  refine ⟨?_, fun x hx => ?_⟩
  · unfold colsOf
    rw [List.pairwise_map]
    exact (bitsL_sorted m).imp (fun h => by omega)
  · obtain ⟨j, rfl, h1, _⟩ := (cols_mem m x).1 hx
    omega
theorem cols_len (m : Nat) : (colsOf m).length ≤ 64 := by unfold colsOf; rw [List.length_map]; exact bitsL_len m
theorem cols_mk {s : List Int} (h : SetM s) : colsOf (mk s) = s := by
  refine sorted_ext _ _ (cols_setM _).1 h.1 fun y => ?_
  rw [cols_mem]
  constructor
  · rintro ⟨j, rfl, _, h2⟩
    exact (h.bit j).1 h2
  · intro hy
    have := h.2 y hy
    exact ⟨(y - 1).toNat, by omega, by omega, (h.bit _).2 (by rw [show (((y - 1).toNat : Nat) : Int) + 1 = y by omega]; exact hy)⟩
theorem mk_cols {m : Nat} (hm : m < big) : mk (colsOf m) = m := by
  refine Nat.eq_of_testBit_eq fun j => ?_
  rw [Bool.eq_iff_iff, (cols_setM m).bit j, cols_mem]
  constructor
  · rintro ⟨i, h1, _, h2⟩
    obtain rfl : i = j := by omega
    exact h2
  · intro h
    refine ⟨j, rfl, ?_, h⟩
    rcases Nat.lt_or_ge j 64 with h1 | h1
    · exact h1
    · rw [Nat.testBit_lt_two_pow (Nat.lt_of_lt_of_le hm (Nat.pow_le_pow_right (by decide) h1 : 2 ^ 64 ≤ 2 ^ j))] at h
      cases h
theorem setM_len {s : List Int} (h : SetM s) : s.length ≤ 64 := by rw [← cols_mk h]; exact cols_len _
theorem putAll_setM {a b : List Int} (ha : SetM a) (hb : SetM b) : SetM (putAll a b) ∧ mk (putAll a b) = mk a ||| mk b := by
  obtain ⟨h1, h2, _⟩ := putAll_spec b a ha.1
  have hs : SetM (putAll a b) := ⟨h1, fun x hx => by
    rcases (h2 x).1 hx with h | h
    · exact ha.2 x h
    · exact hb.2 x h⟩
  refine ⟨hs, Nat.eq_of_testBit_eq fun j => ?_⟩
  rw [Bool.eq_iff_iff, hs.bit, Nat.testBit_or, Bool.or_eq_true, ha.bit, hb.bit, h2]
theorem putAll_self {s : List Int} (h : SetM s) : putAll [] s = s := by
  obtain ⟨h1, h2, _⟩ := putAll_spec s [] List.Pairwise.nil
  exact sorted_ext _ _ h1 h.1 fun y => by rw [h2 y]; simp
theorem meet_iff {a b : List Int} (ha : SetM a) (hb : SetM b) : ((a.filter fun x => decide (x ∈ b) == true).length : Int) > 0 ↔ ¬ Apart (mk a) (mk b) := by
  constructor
  · intro h hap
    obtain ⟨x, hx⟩ := List.exists_mem_of_length_pos (show 0 < (a.filter fun x => decide (x ∈ b) == true).length by omega)
    obtain ⟨h1, h2⟩ := List.mem_filter.1 hx
    have hr := ha.2 x h1
    have e : (((x - 1).toNat : Nat) : Int) + 1 = x := by omega
    have h3 : x ∈ b := by simpa using h2
    exact apart_bit hap (x - 1).toNat ⟨(ha.bit _).2 (by rw [e]; exact h1), (hb.bit _).2 (by rw [e]; exact h3)⟩
  · intro h
    rcases Nat.eq_zero_or_pos (a.filter fun x => decide (x ∈ b) == true).length with h0 | h0
    · refine absurd (apart_of fun j ⟨h1, h2⟩ => ?_) h
      have hn := List.length_eq_zero_iff.1 h0
      have := List.filter_eq_nil_iff.1 hn _ ((ha.bit j).1 h1)
      exact this (by simpa using (hb.bit j).1 h2)
    · omega
/-- what spec.EQSets does with the sets that are there -/
def specIn : List Int → List (List Int) → List (List Int) → List (List Int)
  | x, rest, [] => rest ++ [x]
  | x, rest, y :: t => if ((y.filter fun z => decide (z ∈ x) == true).length : Int) > 0 then specIn (putAll x y) rest t else specIn x (rest ++ [y]) t
theorem specIn_res : ∀ (t : List (List Int)) (x : List Int) (rest : List (List Int)), SetM x → (∀ y ∈ t, SetM y) → (t.map mk).Pairwise Apart →
    ∃ R u, specIn x rest t = rest ++ R ++ [u] ∧ SetM u ∧ (∀ y ∈ R, y ∈ t) ∧ R.map mk = (t.map mk).filter (fun y => decide (Apart y (mk x))) ∧ ∀ j, (mk u).testBit j = true ↔ (mk x).testBit j = true ∨ ∃ y ∈ t.map mk, ¬ Apart y (mk x) ∧ y.testBit j = true
  | [], x, rest, hx, _, _ => ⟨[], x, by simp [specIn], hx, fun _ h => by simp at h, rfl, fun j => by simp⟩
  | y :: t, x, rest, hx, ht, hp => by
    have hy := ht y (List.mem_cons_self ..)
    have ht2 : ∀ z ∈ t, SetM z := fun z hz => ht z (List.mem_cons_of_mem _ hz)
    rw [List.map_cons] at hp
    obtain ⟨ha, hp2⟩ := List.pairwise_cons.1 hp
    unfold specIn
    by_cases hm : Apart (mk y) (mk x)
    · rw [if_neg (fun h => (meet_iff hy hx).1 h hm)]
      obtain ⟨R, u, e, h1, h2, h3, h4⟩ := specIn_res t x (rest ++ [y]) hx ht2 hp2
      refine ⟨y :: R, u, by rw [e]; simp, h1, fun z hz => ?_, ?_, fun j => ?_⟩
      · rcases List.mem_cons.1 hz with h | h
        · rw [h]; exact List.mem_cons_self ..
        · exact List.mem_cons_of_mem _ (h2 z h)
      · rw [List.map_cons, List.map_cons, List.filter_cons_of_pos (by simpa using hm), h3]
      · rw [h4 j, List.map_cons]
        constructor
        · rintro (h | ⟨z, hz, h⟩)
          · exact .inl h
          · exact .inr ⟨z, List.mem_cons_of_mem _ hz, h⟩
        · rintro (h | ⟨z, hz, h, hb⟩)
          · exact .inl h
          · rcases List.mem_cons.1 hz with e | hz
            · subst e; exact absurd hm h
            · exact .inr ⟨z, hz, h, hb⟩
    · rw [if_pos ((meet_iff hy hx).2 hm)]
      obtain ⟨hs, he⟩ := putAll_setM hx hy
      obtain ⟨R, u, e, h1, h2, h3, h4⟩ := specIn_res t (putAll x y) rest hs ht2 hp2
      rw [he] at h3 h4
      have hiff : ∀ z ∈ t.map mk, (Apart z (mk x ||| mk y) ↔ Apart z (mk x)) := fun z hz => ⟨fun h => (or_apart h).1, fun h => apart_or h (apart_symm (ha z hz))⟩
      refine ⟨R, u, e, h1, fun z hz => List.mem_cons_of_mem _ (h2 z hz), ?_, fun j => ?_⟩
      · rw [h3, List.map_cons, List.filter_cons_of_neg (by simpa using hm)]
        exact List.filter_congr (fun z hz => decide_eq_decide.2 (hiff z hz))
      · rw [h4 j, List.map_cons, Nat.testBit_or, Bool.or_eq_true]
        constructor
        · rintro ((h | h) | ⟨z, hz, h, hb⟩)
          · exact .inl h
          · exact .inr ⟨mk y, List.mem_cons_self .., hm, h⟩
          · exact .inr ⟨z, List.mem_cons_of_mem _ hz, fun h3 => h ((hiff z hz).2 h3), hb⟩
        · rintro (h | ⟨z, hz, h, hb⟩)
          · exact .inl (.inl h)
          · rcases List.mem_cons.1 hz with e | hz
            · subst e; exact .inl (.inr hb)
            · exact .inr ⟨z, hz, fun h4 => h ((hiff z hz).1 h4), hb⟩
theorem specIn_len : ∀ (t : List (List Int)) (x : List Int) (rest : List (List Int)), (specIn x rest t).length ≤ rest.length + t.length + 1
  | [], x, rest => by simp [specIn]
  | y :: t, x, rest => by
    unfold specIn
    split
    · have := specIn_len t (putAll x y) rest
      simp; omega
    · have := specIn_len t x (rest ++ [y])
      simp at this ⊢; omega
/-- the sets in the specification -/
def specS (l : List (List Int)) : List (List Int) := l.foldl (fun out s => specIn s [] out) []
theorem specS_take (l : List (List Int)) (k : Nat) (h : k < l.length) : specS (l.take (k + 1)) = specIn l[k] [] (specS (l.take k)) := by
  unfold specS
  rw [List.take_succ_eq_append_getElem h, List.foldl_append]
  rfl
structure Good (A B : List (List Int)) (M : List Nat) : Prop where
  set : ∀ s ∈ B, SetM s
  perm : (B.map mk).Perm M
  apart : M.Pairwise Apart
  ne : ∀ y ∈ M, y ≠ 0
theorem specS_good (l : List (List Int)) (hl : ∀ s ∈ l, SetM s ∧ s ≠ []) : ∀ k, k ≤ l.length → Good [] (specS (l.take k)) (eqM (l.take k)) ∧ (specS (l.take k)).length ≤ k
  | 0, _ => ⟨⟨fun s h => by simp [specS] at h, by simp [specS, eqM], by simp [eqM], fun y h => by simp [eqM] at h⟩, by simp [specS]⟩
  | k + 1, h => by
    obtain ⟨⟨g1, g2, g3, g4⟩, gl⟩ := specS_good l hl k (by omega)
    have hk := hl _ (List.getElem_mem (show k < l.length by omega))
    rw [specS_take l k (by omega), eqM_take l k (by omega)]
    have hp : ((specS (l.take k)).map mk).Pairwise Apart := (g2.pairwise_iff apart_symm).2 g3
    obtain ⟨R, u, e, h1, h2, h3, h4⟩ := specIn_res (specS (l.take k)) l[k] [] hk.1 g1 hp
    have hr : Res ((specS (l.take k)).map mk) (mk l[k]) ((specIn l[k] [] (specS (l.take k))).map mk) := ⟨⟨R.map mk, mk u, by rw [e]; simp, by rw [h3], h4⟩⟩
    have hr2 := addL_res _ (mk l[k]) g3
    have hm0 : mk l[k] ≠ 0 := by
      intro h0
      obtain ⟨x, hx⟩ := List.exists_mem_of_ne_nil _ hk.2
      have hx1 := hk.1.2 x hx
      have := (hk.1.bit (x - 1).toNat).2 (by rw [show (((x - 1).toNat : Nat) : Int) + 1 = x by omega]; exact hx)
      rw [h0, Nat.zero_testBit] at this
      cases this
    obtain ⟨a1, a2⟩ := hr2.apart g3 g4 hm0
    refine ⟨⟨fun s hs => ?_, hr.perm hr2 g2, a1, a2⟩, ?_⟩
    · rw [e] at hs
      rcases List.mem_append.1 hs with h | h
      · exact g1 s (h2 s (by simpa using h))
      · rw [List.mem_singleton.1 h]; exact h1
    · have := specIn_len (specS (l.take k)) l[k] []
      simp at this ⊢; omega
theorem ev_spec_in (x0 : List (List Int)) (i : Nat) (hi : i < 1000) (out : List (List Int)) (ho : ∀ s ∈ out, SetM s) (hol : out.length ≤ 100) (r : List (List Int))
    : ∀ (d j : Nat) (x : List Int) (rest : List (List Int)), j + d = out.length → SetM x → rest.length ≤ j → Ev (fun k => spec_EQSets.l0 k x0 (specIn x rest (out.drop j)) ((i + 1 : Nat) : Int)) r → Ev (fun k => spec_EQSets.l1 k x0 out (i : Int) x rest (j : Int)) r
  | 0, j, x, rest, hj, hx, hr, next => by
    rw [List.drop_eq_nil_of_le (by omega)] at next
    refine Ev.step (fun k => ?_) next
    rw [spec_EQSets.l1, if_neg (by omega), if_pos (by omega), w64 i (by omega)]
    rfl
  | d + 1, j, x, rest, hj, hx, hr, next => by
    have hlt : j < out.length := by omega
    have hs := ho _ (List.getElem_mem hlt)
    rw [List.drop_eq_getElem_cons hlt] at next
    have l1 := setM_len hs
    have l2 := setM_len hx
    refine Ev.step (f := fun k => (spec_ISBoth.f k (rd_L1 out (j : Int)) x true).bind fun t171 => (if (t171.length : Int) > 0 then ((spec_ISAll.f k x (rd_L1 out (j : Int))).bind fun t175 => (spec_EQSets.l1 k x0 out (i : Int) t175 rest (wrap64 ((j : Int) + 1)))) else (if rest.length < 5864062014805 then (spec_EQSets.l1 k x0 out (i : Int) x (rest ++ [rd_L1 out (j : Int)]) (wrap64 ((j : Int) + 1))) else (none)))) (fun k => by rw [spec_EQSets.l1, if_pos (by omega), if_pos (by omega)]) ?_
    rw [rdL out j hlt]
    refine Ev.bind (ev_both _ x true (by omega) (by omega)) ?_
    rw [w64 j (by omega)]
    unfold specIn at next
    by_cases hc : ((out[j].filter fun z => decide (z ∈ x) == true).length : Int) > 0
    · rw [if_pos hc] at next
      simp only [if_pos hc]
      exact Ev.bind (ev_all x _ (by omega) (by omega)) (ev_spec_in x0 i hi out ho hol r d (j + 1) _ rest (by omega) (putAll_setM hx hs).1 (by omega) next)
    · rw [if_neg hc] at next
      simp only [if_neg hc, if_pos (show rest.length < 5864062014805 by omega)]
      exact ev_spec_in x0 i hi out ho hol r d (j + 1) x _ (by omega) hx (by simp; omega) next
theorem ev_spec (l : List (List Int)) (hl : ∀ s ∈ l, SetM s ∧ s ≠ []) (hll : l.length ≤ 90) : ∀ (d i : Nat), i + d = l.length → Ev (fun k => spec_EQSets.l0 k l (specS (l.take i)) (i : Int)) (specS l)
  | 0, i, hi => by
    obtain rfl : i = l.length := by omega
    rw [List.take_length]
    exact Ev.step (f := fun _ => some (specS l)) (fun k => by rw [spec_EQSets.l0, if_neg (by omega)]) (Ev.now _)
  | d + 1, i, hi => by
    have hlt : i < l.length := by omega
    obtain ⟨g, gl⟩ := specS_good l hl i (by omega)
    have hs := hl _ (List.getElem_mem hlt)
    have hsl := setM_len hs.1
    have ih := ev_spec l hl hll d (i + 1) (by omega)
    rw [specS_take l i hlt] at ih
    refine Ev.step (f := fun k => (spec_ISOf.f k (rd_L1 l (i : Int))).bind fun t164 => (spec_EQSets.l1 k l (specS (l.take i)) (i : Int) t164 ([] : List (List Int)) 0)) (fun k => by rw [spec_EQSets.l0, if_pos (by omega), if_pos (by omega)]) ?_
    rw [rdL l i hlt]
    refine Ev.bind (ev_of _ (by omega)) ?_
    rw [putAll_self hs.1]
    exact ev_spec_in l i (by omega) _ g.set (by omega) _ (specS (l.take i)).length 0 l[i] [] (by omega) hs.1 (by simp) (by rw [List.drop_zero]; exact ih)
theorem count_one {l : List Nat} (h : l.Nodup) {a : Nat} (ha : a ∈ l) : l.countP (fun b => decide (a = b)) = 1 := by
  have e := List.nodup_iff_count.1 h a
  have e2 := List.count_pos_iff.2 ha
  have : l.countP (fun b => decide (a = b)) = l.count a := by
    unfold List.count
    exact List.countP_congr (fun b _ => by simp only [decide_eq_true_eq, beq_iff_eq]; exact eq_comm)
  omega
theorem ev_same_in (P Q : List Nat) (hP : ∀ m ∈ P, m < big) (hQ : ∀ m ∈ Q, m < big) (lq : Q.length ≤ 100) (i : Nat) (hi : i < P.length) (hp : P.length ≤ 100) (r : Bool) :
    ∀ (d j c : Nat), j + d = Q.length → c ≤ j → Ev (fun k => if ((c + (Q.drop j).countP (fun b => decide (P[i] = b)) : Nat) : Int) = 1 then spec_EQSame.l0 k (P.map colsOf) (Q.map colsOf) ((i + 1 : Nat) : Int) else some false) r → Ev (fun k => spec_EQSame.l1 k (P.map colsOf) (Q.map colsOf) (i : Int) (c : Int) (j : Int)) r
  | 0, j, c, hj, hc, next => by
    rw [List.drop_eq_nil_of_le (by omega)] at next
    refine Ev.step (fun k => ?_) next
    rw [spec_EQSame.l1, if_neg (by rw [List.length_map]; omega), w64 i (by omega)]
    rfl
  | d + 1, j, c, hj, hc, next => by
    have hlt : j < Q.length := by omega
    rw [List.drop_eq_getElem_cons hlt, List.countP_cons] at next
    have hA := rdL (P.map colsOf) i (by rw [List.length_map]; exact hi)
    have hB := rdL (Q.map colsOf) j (by rw [List.length_map]; exact hlt)
    rw [List.getElem_map] at hA hB
    have la := cols_len P[i]
    have lb := cols_len Q[j]
    refine Ev.step (f := fun k => (spec_ISOf.f k (colsOf P[i])).bind fun t144 => ((spec_ISOf.f k (colsOf Q[j])).bind fun t148 => ((spec_ISSame.f k t144 t148).bind fun t151 => (if t151 = true then (spec_EQSame.l1 k (P.map colsOf) (Q.map colsOf) (i : Int) (wrap64 ((c : Int) + 1)) (wrap64 ((j : Int) + 1))) else (spec_EQSame.l1 k (P.map colsOf) (Q.map colsOf) (i : Int) (c : Int) (wrap64 ((j : Int) + 1))))))) (fun k => ?_) ?_
    · rw [spec_EQSame.l1, if_pos (by rw [List.length_map]; omega), if_pos (by omega), if_pos (by rw [List.length_map]; omega), hA, hB]
      simp only [if_pos (show (0 : Int) ≤ (j : Int) by omega)]
    · refine Ev.bind (ev_of _ (by omega)) ?_
      refine Ev.bind (ev_of _ (by omega)) ?_
      rw [putAll_self (cols_setM _), putAll_self (cols_setM _)]
      refine Ev.bind (ev_same _ _ (by omega)) ?_
      rw [w64 j (by omega), w64 c (by omega)]
      have he : (colsOf P[i] = colsOf Q[j]) ↔ P[i] = Q[j] := by
        constructor
        · intro h
          have h2 := congrArg mk h
          rwa [mk_cols (hP _ (List.getElem_mem _)), mk_cols (hQ _ (List.getElem_mem _))] at h2
        · intro h
          rw [h]
      by_cases hpq : P[i] = Q[j]
      · simp only [if_pos (decide_eq_true (he.2 hpq))]
        refine ev_same_in P Q hP hQ lq i hi hp r d (j + 1) (c + 1) (by omega) (by omega) ?_
        simp only [hpq, decide_true, if_true] at next
        simp only [hpq]
        rw [show c + 1 + List.countP (fun b => decide (Q[j] = b)) (List.drop (j + 1) Q) = c + (List.countP (fun b => decide (Q[j] = b)) (List.drop (j + 1) Q) + 1) by omega]
        exact next
      · simp only [decide_eq_false (fun h => hpq (he.1 h)), Bool.false_eq_true, if_false]
        refine ev_same_in P Q hP hQ lq i hi hp r d (j + 1) c (by omega) (by omega) ?_
        simp only [hpq, decide_false, Bool.false_eq_true, if_false, Nat.add_zero] at next
        exact next
theorem ev_same_all (P Q : List Nat) (hP : ∀ m ∈ P, m < big) (hQ : ∀ m ∈ Q, m < big) (lq : Q.length ≤ 100) (hp : P.length ≤ 100) (hper : P.Perm Q) (hn : Q.Nodup) : ∀ (d i : Nat), i + d = P.length → Ev (fun k => spec_EQSame.l0 k (P.map colsOf) (Q.map colsOf) (i : Int)) true
  | 0, i, hi => Ev.step (f := fun _ => some true) (fun k => by rw [spec_EQSame.l0, if_neg (by rw [List.length_map]; omega)]) (Ev.now _)
  | d + 1, i, hi => by
    have hlt : i < P.length := by omega
    refine Ev.step (f := fun k => spec_EQSame.l1 k (P.map colsOf) (Q.map colsOf) (i : Int) 0 0) (fun k => by rw [spec_EQSame.l0, if_pos (by rw [List.length_map]; omega)]) ?_
    refine ev_same_in P Q hP hQ lq i hlt hp true Q.length 0 0 (by omega) (by omega) ?_
    rw [List.drop_zero, count_one hn (hper.mem_iff.1 (List.getElem_mem hlt))]
    refine Ev.congr (f := fun k => spec_EQSame.l0 k (P.map colsOf) (Q.map colsOf) ((i + 1 : Nat) : Int)) (fun k => if_pos (by decide)) ?_
    exact ev_same_all P Q hP hQ lq hp hper hn d (i + 1) (by omega)
theorem FnEQSets (l0 : List (List Int)) : ∃ k, laws_FnEQSets.f k l0 = some true := by
  have hfit : ∃ b, Ev (fun k => laws_zzFits7.f k l0) b := by
    by_cases h : (l0.length : Int) > 2147483647
    · exact ⟨false, 0, fun k _ => if_pos h⟩
    · obtain ⟨b, hb⟩ := ev_fits l0 (by omega) l0.length 0 (by omega)
      exact ⟨b, Ev.congr (fun k => if_neg h) hb⟩
  obtain ⟨b, hb⟩ := hfit
  refine Ev.rounds (Ev.congr (f := fun k => (laws_zzFits7.f k l0).bind fun t182 => (if t182 = true then ((laws_eqSets.f k l0).bind fun t183 => ((impl_EQSets.f t183).bind fun t186 => ((spec_EQSets.f k t183).bind fun t189 => ((spec_EQSame.f k t186 t189).bind fun t192 => (some t192))))) else (some true))) (fun k => rfl) (Ev.bind hb ?_))
  cases b
  · simp only [Bool.false_eq_true, if_false]
    exact Ev.now true
  · simp only [if_true]
    obtain ⟨r, hr, hf⟩ := ev_eqSets l0 12 0 [] rfl (by omega) ⟨by simp, fun s h => by simp at h⟩
    refine Ev.bind (a := r) hr ?_
    have hset : ∀ s ∈ r, SetM s ∧ s ≠ [] := fun s hs => by
      obtain ⟨a, b, c, d⟩ := hf.2 s hs
      exact ⟨⟨a, fun x hx => by have := b x hx; omega⟩, c⟩
    have hcols : ∀ s ∈ r, Cols s := fun s hs => ⟨(hset s hs).1.2, by have := (hf.2 s hs).2.2.2; omega⟩
    have hlen := hf.1
    have himpl : impl_EQSets.f r = some ((eqM r).map colsOf) := by unfold impl_EQSets.f; rw [if_pos ⟨by omega, hcols⟩]
    rw [himpl]
    simp only [Option.bind_some]
    refine Ev.bind (a := specS r) (by have h := ev_spec r hset (by omega) r.length 0 (by omega); exact h) ?_
    obtain ⟨g, gl⟩ := specS_good r hset r.length (Nat.le_refl _)
    obtain ⟨m1, m2⟩ := eqM_spec r hcols r.length (Nat.le_refl _)
    rw [List.take_length] at g gl m1 m2
    have hB : specS r = ((specS r).map mk).map colsOf := by
      rw [List.map_map]
      conv => lhs; rw [← List.map_id (specS r)]
      exact List.map_congr_left (fun s hs => (cols_mk (g.set s hs)).symm)
    have hsame : Ev (fun k => spec_EQSame.f k ((eqM r).map colsOf) (specS r)) true := by
      rw [hB]
      have hpl := g.perm.length_eq
      refine Ev.congr (fun k => ?_) (ev_same_all (eqM r) ((specS r).map mk) m1 (fun m hm => m1 m (g.perm.mem_iff.1 hm)) (by rw [hpl]; omega) (by omega) g.perm.symm (g.perm.nodup_iff.2 (apart_nodup g.apart g.ne)) (eqM r).length 0 (by omega))
      unfold spec_EQSame.f
      rw [if_pos (by rw [List.length_map, List.length_map, hpl])]
      rfl
    exact Ev.bind hsame (Ev.now true)
theorem walk4 (A0 : Option Addr) (c0 : Nat) (l0 : List (List Int)) (w : World) (hg : Go.Proofs.YtlghbhkpdlkhjaaDoor.PIS.Glob w) (hr0 : Kd.C (Kd.slice 3 (Kd.int .i64)) w A0 l0.length l0) (hc0 : l0.length ≤ c0) :
    Calls Tryd.prog 4 #[.slice A0 l0.length c0] w fun e w' => e = .returned (.bool true) ∧ Below w.heap.size w w' := by
  obtain ⟨k, h⟩ := FnEQSets l0
  exact laws_FnEQSets.calls k A0 c0 l0 true w hr0 hc0 hg h
end Go.Proofs.YtlghbhkpdlkhjaaDoor.PEQ
