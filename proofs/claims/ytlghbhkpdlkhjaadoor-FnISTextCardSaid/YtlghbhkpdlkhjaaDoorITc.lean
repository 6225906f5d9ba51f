/-
  Contract of what FastIntSet.String does with each number (String$2). Condition: numbers from 0 to 1000, a text of at most 80000 bytes.
-/
import Derived.Test.YtlghbhkpdlkhjaaDoorITb
namespace Go.Proofs.YtlghbhkpdlkhjaaDoor.PIS
open Go.RowKit Go.Proofs.YtlghbhkpdlkhjaaDoorW.PrintWords Go.Proofs.YtlghbhkpdlkhjaaDoorW.PrintLast Go.Proofs.YtlghbhkpdlkhjaaDoorW.PrintMore
set_option linter.unusedVariables false
set_option linter.unusedSimpArgs false
set_option maxRecDepth 100000
set_option maxHeartbeats 400000

/-- what String's blocks of its own are -/
def XT : Nat → Obj → Prop := fun _ o => ∃ c t fz, o = .cells c t fz ∧ (t = 94 ∨ t = 5 ∨ t = 3)
theorem XB_XT (k : Nat) (o : Obj) (h : XB k o) : XT k o := by
  obtain ⟨c, t, fz, e, h | h⟩ := h
  · exact ⟨c, t, fz, e, .inl h⟩
  · exact ⟨c, t, fz, e, .inr (.inl h)⟩
theorem IB.setOne {B b : Nat} {l : List UInt8} {w : World} (h : IB B b l w) {q : Nat} {u : Value} (hq : w.heap[q]? = some (.cells #[u] 3 (0, 0))) (x : Value) : IB B b l (w.setCell ⟨q, 0, none⟩ x) := by
  obtain ⟨h1, v, lr, hb, ho, hne⟩ := h
  have hqb : b ≠ q := by
    rintro rfl
    rw [hb] at hq
    simp at hq
  refine ⟨h1, v, lr, (Below.heap_setCell _ _ _ _ hqb).trans hb, ownsRow_setCell_other ho ?_ x, hne⟩
  intro e
  obtain ⟨_, h2 | ⟨g, cap, cur, hv, hg, hh, r⟩⟩ := ho
  · rw [h2.1] at e; simp [Value.ownBlock] at e
  · rw [hv] at e
    simp [Value.ownBlock] at e
    rw [e, hq] at hh
    simp at hh
theorem kept_setOne {w : World} {q : Nat} {u : Value} (hq : w.heap[q]? = some (.cells #[u] 3 (0, 0))) (x : Value) : Kept XT w (w.setCell ⟨q, 0, none⟩ x) := by
  intro k o hk hx
  by_cases e : k = q
  · subst e
    rw [hq] at hk
    exact absurd ⟨_, 3, _, (Option.some.inj hk).symm, .inr (.inr rfl)⟩ hx
  · exact (Below.heap_setCell _ _ _ _ e).trans hk
/-- the state of String between two numbers: the text, where the run begins and ends -/
abbrev St := List UInt8 × Int × Int
structure IV (w0 : World) (b p : Nat) (x : St) (W : World) : Prop where
  buf : IB w0.heap.size b x.1 W
  f4 : W.heap[p]? = some (.cells #[.func (.func 65) #[] #[.pointer (some ⟨b, 0, none⟩)]] 81 (0, 0))
  c5 : W.heap[p + 1]? = some (.cells #[.int .i64 x.2.1] 3 (0, 0))
  c6 : W.heap[p + 2]? = some (.cells #[.int .i64 x.2.2] 3 (0, 0))
  bel : Below w0.heap.size w0 W
theorem IV.later {w0 : World} {b p : Nat} {x : St} {W W' : World} (h : IV w0 b p x W) (hb : Below W.heap.size W W') : IV w0 b p x W' :=
  ⟨h.buf.old hb, (hb.block _ (heap_lt h.f4)).trans h.f4, (hb.block _ (heap_lt h.c5)).trans h.c5, (hb.block _ (heap_lt h.c6)).trans h.c6, below_then h.bel h.bel.size hb⟩
/-- a number more -/
def step (x : St) (i : Int) : St :=
  if x.2.1 ≠ -1 ∧ x.2.2 = i - 1 then (x.1, x.2.1, i) else if x.2.1 ≠ -1 then (sep x.1 ++ rg x.2.1 x.2.2, i, i) else (x.1, i, i)
theorem step_eq (bs : List UInt8) (rs re i : Int) : step (bs, rs, re) i = if rs ≠ -1 ∧ re = i - 1 then (bs, rs, i) else if rs ≠ -1 then (sep bs ++ rg rs re, i, i) else (bs, i, i) := rfl
theorem not_XB {c : Array Value} {t : TypeId} {fz : Nat × Nat} {k : Nat} (h : t ≠ 94) (h' : t ≠ 5) : ¬ XB k (.cells c t fz) := by
  rintro ⟨_, _, _, e, h1 | h1⟩
  · cases e; exact h h1
  · cases e; exact h' h1
theorem IV.set6 {w0 : World} {b p : Nat} {x : St} {W : World} (h : IV w0 b p x W) (hp : w0.heap.size ≤ p) (i : Int) : IV w0 b p (x.1, x.2.1, i) (W.setCell ⟨p + 2, 0, none⟩ (.int .i64 i)) :=
  ⟨h.buf.setOne h.c6 _, (Below.heap_setCell _ _ _ _ (show p ≠ p + 2 by omega)).trans h.f4, (Below.heap_setCell _ _ _ _ (show p + 1 ≠ p + 2 by omega)).trans h.c5, one_setCell h.c6, h.bel.setCell (p := ⟨p + 2, 0, none⟩) (by simp; omega) _⟩
theorem IV.set5 {w0 : World} {b p : Nat} {x : St} {W : World} (h : IV w0 b p x W) (hp : w0.heap.size ≤ p) (i : Int) : IV w0 b p (x.1, i, x.2.2) (W.setCell ⟨p + 1, 0, none⟩ (.int .i64 i)) :=
  ⟨h.buf.setOne h.c5 _, (Below.heap_setCell _ _ _ _ (show p ≠ p + 1 by omega)).trans h.f4, one_setCell h.c5, (Below.heap_setCell _ _ _ _ (show p + 2 ≠ p + 1 by omega)).trans h.c6, h.bel.setCell (p := ⟨p + 1, 0, none⟩) (by simp; omega) _⟩
theorem step_ok (w0 : World) (b p : Nat) (hp : w0.heap.size ≤ p) (ht : Pow10 w0) (bs : List UInt8) (rs re i : Int) (w : World) (h : IV w0 b p (bs, rs, re) w) (hi : 0 ≤ i ∧ i ≤ 1000) (hr : rs = -1 ∨ (0 ≤ rs ∧ rs ≤ 1000 ∧ 0 ≤ re ∧ re ≤ 1000)) (hl : bs.length ≤ 80000) :
    Calls Tryd.prog 69 #[.int .i64 i, .pointer (some ⟨p, 0, none⟩), .pointer (some ⟨p + 1, 0, none⟩), .pointer (some ⟨p + 2, 0, none⟩)] w fun e' w' => e' = .returned (.tuple #[]) ∧ IV w0 b p (step (bs, rs, re) i) w' ∧ Below w0.heap.size w w' ∧ Kept XT w w' := by
  have H := Aside0.mk h
  have c4 := cell_of_one h.f4
  have c5 := cell_of_one h.c5
  have c6 := cell_of_one h.c6
  have f5 := free_of_one h.c5
  have f6 := free_of_one h.c6
  simp only at c5 c6
  have HT : Aside0 (∀ W, Below w0.heap.size w0 W → Pow10 W) := ⟨fun W hb => Pow10.later ht hb⟩
  clear h ht
  by_cases h1 : rs = -1
  · have hst : step (bs, rs, re) i = (bs, i, i) := by rw [step_eq, if_neg (fun h => h.1 h1), if_neg (fun h => h h1)]
    rw [hst]
    subst h1
    have H2 := Aside0.mk ((H.out.set5 hp i).set6 hp i)
    have HK := Aside0.mk ((kept_setOne H.out.c5 (.int .i64 i)).trans (kept_setOne (H.out.set5 hp i).c6 (.int .i64 i)))
    have HB := Aside0.mk ((Below.refl w0.heap.size w).setCell (p := ⟨p + 1, 0, none⟩) (by simp; omega) (.int .i64 i) |>.setCell (p := ⟨p + 2, 0, none⟩) (by simp; omega) (.int .i64 i))
    clear hst H HT
    go_enter Tryd.func69, Tryd.ntmps69
    go_wp2_with fail
    go_end0
    exact ⟨rfl, H2.out, HB.out, HK.out⟩
  · have hr2 := hr.resolve_left h1
    by_cases h2 : re = i - 1
    · have hst : step (bs, rs, re) i = (bs, rs, i) := by rw [step_eq, if_pos ⟨h1, h2⟩]
      rw [hst]
      have H2 := Aside0.mk (H.out.set6 hp i)
      have HK := Aside0.mk (kept_setOne H.out.c6 (.int .i64 i))
      have HB := Aside0.mk ((Below.refl w0.heap.size w).setCell (p := ⟨p + 2, 0, none⟩) (by simp; omega) (.int .i64 i))
      clear hst H HT
      go_enter Tryd.func69, Tryd.ntmps69
      go_wp2_with fail
      go_end0
      exact ⟨rfl, H2.out, HB.out, HK.out⟩
    · have hst : step (bs, rs, re) i = (sep bs ++ rg rs re, i, i) := by rw [step_eq, if_neg (fun h => h2 h.2), if_pos h1]
      rw [hst]
      have HR := Aside0.mk (range_ok w0.heap.size b bs rs re w H.out.buf H.out.bel.size (by omega) (fun W hb => HT.out W (H.out.bel.trans hb)) ⟨hr2.1, hr2.2.1⟩ hr2.2.2)
      have g1 : (rs != -1) = true := by simpa using h1
      have g2 : (re == i - 1) = false := by simpa using h2
      clear hst HT
      go_enter Tryd.func69, Tryd.ntmps69
      go_wp2_with fail
      refine HR.out.mono ?_
      rintro e0 w2 ⟨rfl, hi2, hb2, hk2⟩
      have HI := Aside0.mk (show IV w0 b p (sep bs ++ rg rs re, rs, re) w2 from ⟨hi2, hk2 _ _ H.out.f4 (not_XB (by decide) (by decide)), hk2 _ _ H.out.c5 (not_XB (by decide) (by decide)), hk2 _ _ H.out.c6 (not_XB (by decide) (by decide)), H.out.bel.trans hb2⟩)
      have d5 := cell_of_one HI.out.c5
      have d6 := cell_of_one HI.out.c6
      have g5 := free_of_one HI.out.c5
      have g6 := free_of_one HI.out.c6
      simp only at d5 d6
      have H2 := Aside0.mk ((HI.out.set5 hp i).set6 hp i)
      have HK := Aside0.mk ((hk2.mono XB_XT).trans ((kept_setOne HI.out.c5 (.int .i64 i)).trans (kept_setOne (HI.out.set5 hp i).c6 (.int .i64 i))))
      have HB := Aside0.mk (hb2.setCell (p := ⟨p + 1, 0, none⟩) (by simp; omega) (.int .i64 i) |>.setCell (p := ⟨p + 2, 0, none⟩) (by simp; omega) (.int .i64 i))
      clear hi2 hb2 hk2 H HI HR
      go_wp2_with fail
      go_end0
      exact ⟨rfl, H2.out, HB.out, HK.out⟩
end Go.Proofs.YtlghbhkpdlkhjaaDoor.PIS
