/-
  Contract of EquivSets.Add: rows of small sets. Condition: no set is large; at most 1000 sets.
-/
import Derived.Test.YtlghbhkpdlkhjaaDoorEQb
namespace Go.Proofs.YtlghbhkpdlkhjaaDoor.PEQ
open Go.RowKit Go.Proofs.YtlghbhkpdlkhjaaDoorW.PrintWords Go.Proofs.YtlghbhkpdlkhjaaDoorW.PrintLast Go.Proofs.YtlghbhkpdlkhjaaDoorW.PrintMore
set_option linter.unusedVariables false
set_option linter.unusedSimpArgs false
set_option maxRecDepth 100000
set_option maxHeartbeats 400000

/-- what is not of S stands as it stood -/
structure Still (S : Nat → Prop) (w w' : World) : Prop where
  os : w'.os = w.os
  tape : w'.tape = w.tape
  output : w'.output = w.output
  size : w.heap.size ≤ w'.heap.size
  block : ∀ k, k < w.heap.size → ¬ S k → w'.heap[k]? = w.heap[k]?
theorem Still.refl (S : Nat → Prop) (w : World) : Still S w w := ⟨rfl, rfl, rfl, Nat.le_refl _, fun _ _ _ => rfl⟩
theorem Still.trans {S : Nat → Prop} {a b c : World} (h : Still S a b) (k : Still S b c) : Still S a c :=
  ⟨k.os.trans h.os, k.tape.trans h.tape, k.output.trans h.output, Nat.le_trans h.size k.size, fun i hi hs => (k.block i (Nat.lt_of_lt_of_le hi h.size) hs).trans (h.block i hi hs)⟩
theorem Still.of_below {S : Nat → Prop} {w w' : World} (h : Below w.heap.size w w') : Still S w w' := ⟨h.os, h.tape, h.output, h.size, fun k hk _ => h.block k hk⟩
theorem Still.drew {S : Nat → Prop} {a w : World} (h : Still S a w) : Still S a w.drew := ⟨h.os, h.tape, h.output, h.size, h.block⟩
theorem Still.alloc {S : Nat → Prop} {a w : World} (h : Still S a w) (o : Obj) : Still S a (w.alloc o) := h.trans (.of_below (below_alloc (Below.refl _ _) o))
theorem Still.setCell {S : Nat → Prop} {a w : World} (h : Still S a w) {p : Addr} (hp : S p.block ∨ a.heap.size ≤ p.block) (u : Value) : Still S a (w.setCell p u) :=
  ⟨h.os, h.tape, h.output, by simpa [World.setCell] using h.size, fun k hk hs => (Below.heap_setCell _ _ _ _ (by rintro rfl; rcases hp with hp | hp; exact hs hp; omega)).trans (h.block k hk hs)⟩
theorem Still.mono {S S' : Nat → Prop} {w w' : World} (h : Still S w w') (hs : ∀ k, S k → S' k) : Still S' w w' := ⟨h.os, h.tape, h.output, h.size, fun k hk hn => h.block k hk (fun hh => hn (hs k hh))⟩
theorem Still.below {S : Nat → Prop} {w w' : World} {B : Nat} (h : Still S w w') (hB : B ≤ w.heap.size) (hs : ∀ k, S k → B ≤ k) : Below B w w' :=
  ⟨h.os, h.tape, h.output, h.size, fun k hk => h.block k (by omega) (fun hh => by have := hs k hh; omega)⟩

/-- the cells of a row of small sets -/
def flat : List Nat → List Value
  | [] => []
  | m :: t => .int .u64 (m : Int) :: .pointer none :: flat t
theorem flat_len : ∀ l, (flat l).length = l.length * 2
  | [] => rfl
  | m :: t => by simp [flat, flat_len t]; omega
theorem flat_app : ∀ a b, flat (a ++ b) = flat a ++ flat b
  | [], b => rfl
  | m :: t, b => by simp [flat, flat_app t b]
theorem flat_take : ∀ (l : List Nat) (n : Nat), (flat l).take (n * 2) = flat (l.take n)
  | [], n => by simp [flat]
  | m :: t, 0 => rfl
  | m :: t, n + 1 => by
    rw [show (n + 1) * 2 = n * 2 + 2 by omega]
    simp [flat, flat_take t n]
theorem flat_get : ∀ (l : List Nat) (i : Nat) (h : i < l.length), (flat l)[i * 2]? = some (.int .u64 (l[i] : Int)) ∧ (flat l)[i * 2 + 1]? = some (.pointer none)
  | m :: t, 0, _ => ⟨rfl, rfl⟩
  | m :: t, i + 1, h => by
    have := flat_get t i (by simpa using h)
    rw [show (i + 1) * 2 = i * 2 + 2 by omega]
    simpa [flat] using this
theorem flat_set : ∀ (l : List Nat) (i m : Nat) (h : i < l.length), ((flat l).set (i * 2) (.int .u64 (m : Int))).set (i * 2 + 1) (.pointer none) = flat (l.set i m)
  | z :: t, 0, m, _ => rfl
  | z :: t, i + 1, m, h => by
    have := flat_set t i m (by simpa using h)
    rw [show (i + 1) * 2 = i * 2 + 2 by omega]
    simpa [flat] using this
abbrev Own (w : World) (base : Nat) (v : Value) (l : List Nat) : Prop := w.ownsRow base 55 2 v l.length (flat l)
theorem Own.slice {w : World} {base : Nat} {v : Value} {l : List Nat} (h : Own w base v l) : ∃ A c, v = .slice A l.length c := by
  rcases h.2 with ⟨rfl, e⟩ | ⟨g, cap, cur, rfl, _⟩
  · exact ⟨none, 0, by rw [e]⟩
  · exact ⟨_, _, rfl⟩
theorem Own.cells {w : World} {base : Nat} {A : Option Addr} {c : Nat} {l : List Nat} (h : Own w base (.slice A l.length c) l) (hn : 0 < l.length) : ∃ g, A = some ⟨g, 0, none⟩ ∧ base ≤ g ∧ g < w.heap.size ∧ l.length ≤ c ∧
    ∀ i (hi : i < l.length), w.cell? ⟨g, i * 2, none⟩ = some (.int .u64 (l[i] : Int)) ∧ w.cell? ⟨g, i * 2 + 1, none⟩ = some (.pointer none) ∧ ∀ o, w.frozen? ⟨g, o, none⟩ = false := by
  rcases h.2 with ⟨e, e2⟩ | ⟨g, cap, cur, e, hb, hh, h1, h2, h3, h4⟩
  · omega
  · simp only [Value.slice.injEq] at e
    obtain ⟨rfl, _, rfl⟩ := e
    refine ⟨g, rfl, hb, blk_lt hh, h1, fun i hi => ?_⟩
    obtain ⟨f1, f2⟩ := flat_get l i hi
    rw [← h4, List.getElem?_take_of_lt (by omega)] at f1 f2
    exact ⟨by rw [Lib.cell_of_heap hh]; simpa using f1, by rw [Lib.cell_of_heap hh]; simpa using f2, fun o => Lib.frozen_of_heap hh _⟩
theorem Own.still {S : Nat → Prop} {w w' : World} {base : Nat} {v : Value} {l : List Nat} (h : Own w base v l) (hk : Still S w w') (hs : ∀ k, v.ownBlock = some k → ¬ S k) : Own w' base v l :=
  own_move h (fun k hk' => hk.block k (own_lt h k hk') (hs k hk'))
theorem Own.set {w : World} {base g c : Nat} {l : List Nat} (h : Own w base (.slice (some ⟨g, 0, none⟩) l.length c) l) (i m : Nat) (hi : i < l.length) :
    Own ((w.setCell ⟨g, i * 2, none⟩ (.int .u64 (m : Int))).setCell ⟨g, i * 2 + 1, none⟩ (.pointer none)) base (.slice (some ⟨g, 0, none⟩) l.length c) (l.set i m) := by
  rcases h.2 with ⟨e, e2⟩ | ⟨g, cap, cur, e, hb, hh, h1, h2, h3, h4⟩
  · omega
  · simp only [Value.slice.injEq] at e
    obtain ⟨e1, _, rfl⟩ := e
    obtain rfl : _ = g := by simpa using e1
    unfold Own
    rw [List.length_set]
    refine ⟨by rw [flat_len, List.length_set], .inr ⟨_, _, (cur.setIfInBounds (i * 2) (.int .u64 (m : Int))).setIfInBounds (i * 2 + 1) (.pointer none), rfl, hb, ?_, h1, h2, by simp [h3], ?_⟩⟩
    · rw [show ∀ (W : World) (o : Nat) (v : Value) (k : Nat), (W.setCell ⟨k, o, none⟩ v).heap[k]? = (W.heap.modify k (fun ob => match ob with | .cells c t f => .cells (c.setIfInBounds o v) t f | ob => ob))[k]? from fun W o v k => rfl, Array.getElem?_modify, if_pos rfl]
      rw [show ∀ (W : World) (o : Nat) (v : Value) (k : Nat), (W.setCell ⟨k, o, none⟩ v).heap[k]? = (W.heap.modify k (fun ob => match ob with | .cells c t f => .cells (c.setIfInBounds o v) t f | ob => ob))[k]? from fun W o v k => rfl, Array.getElem?_modify, if_pos rfl, hh]
      rfl
    · rw [Array.toList_setIfInBounds, Array.toList_setIfInBounds, List.take_set, List.take_set, h4, flat_set l i m hi]
theorem Own.take {w : World} {base n : Nat} {A : Option Addr} {c : Nat} {l : List Nat} (h : Own w base (.slice A l.length c) l) (hn : n ≤ l.length) : Own w base (.slice A n c) (l.take n) := by
  have := own_take h hn
  rw [flat_take] at this
  unfold Own
  rw [List.length_take, Nat.min_eq_left hn]
  exact this
end Go.Proofs.YtlghbhkpdlkhjaaDoor.PEQ
