/-
  What the loop of LikeMatcher.Match keeps of its stack; how its measure falls; closed facts. No condition.
-/
import Derived.Test.YthicaehcoingeaaDoorLKb
namespace Go.Proofs.YthicaehcoingeaaDoor.PLK
open Go.RowKit Go.Proofs.YthicaehcoingeaaDoorW.PrintWords Go.Proofs.YthicaehcoingeaaDoorW.PrintLast Go.Proofs.YthicaehcoingeaaDoorW.PrintMore
set_option linter.unusedVariables false
set_option linter.unusedSimpArgs false
set_option maxRecDepth 100000

/-- how much is left to be done -/
def mu (n L a q i : Nat) : Nat := ((n + 1 - a) * (L + 2) + (L + 1 - q)) * (n + 2) + (n + 1 - i)
theorem mu_one (n L a q i : Nat) (h : i < n) : mu n L a q (i + 1) < mu n L a q i := by unfold mu; omega
theorem mu_any (n L a q i q' : Nat) (h : i < n) (ha : a ≤ i) : mu n L (i + 1) q' (i + 1) < mu n L a q i := by
  unfold mu
  have h1 : (n + 1 - (i + 1)) * (L + 2) + (L + 1 - q') + 1 ≤ (n + 1 - a) * (L + 2) + (L + 1 - q) := by
    have : (n + 1 - (i + 1) + 1) * (L + 2) ≤ (n + 1 - a) * (L + 2) := Nat.mul_le_mul_right _ (by omega)
    rw [Nat.add_mul] at this
    omega
  have h2 := Nat.mul_le_mul_right (n + 2) h1
  rw [Nat.add_mul] at h2
  omega
theorem mu_back (n L a q i : Nat) (h : q < L + 1) (hi : i ≤ n) : mu n L a (q + 1) a < mu n L a q i := by
  unfold mu
  have h1 : (n + 1 - a) * (L + 2) + (L + 1 - (q + 1)) + 1 ≤ (n + 1 - a) * (L + 2) + (L + 1 - q) := by omega
  have h2 := Nat.mul_le_mul_right (n + 2) h1
  rw [Nat.add_mul] at h2
  omega

/-- the stack: where each node ended, from the one before a on -/
def Stk (l : List Int) (base : Nat) (w : World) (v : Value) (a q i : Nat) : Prop :=
  ∃ (g cap : Nat) (xs : List Int), v = .slice (some ⟨g, 0, none⟩) i cap ∧ xs.length = i ∧ Kd.R (Kd.int .i64) 3 w base (fun _ => True) (.slice (some ⟨g, 0, none⟩) i cap) xs ∧ base ≤ g ∧
    ∀ k, k < i → a ≤ k + 1 → xs[k]? = some ((off l (q + (k + 1 - a)) : Nat) : Int)
theorem Stk.later {l base w w' v a q i} (h : Stk l base w v a q i) (hb : Below w.heap.size w w') : Stk l base w' v a q i := by
  obtain ⟨g, cap, xs, h1, h2, h3, h4, h5⟩ := h
  exact ⟨g, cap, xs, h1, h2, Kd.R_below h3 hb, h4, h5⟩
theorem Stk.cells {l : List Int} {base : Nat} {w : World} {g cap : Nat} {xs : List Int} {a q i : Nat} (h2 : xs.length = i) (h3 : Kd.R (Kd.int .i64) 3 w base (fun _ => True) (.slice (some ⟨g, 0, none⟩) i cap) xs)
    (h5 : ∀ k, k < i → a ≤ k + 1 → xs[k]? = some ((off l (q + (k + 1 - a)) : Nat) : Int)) (k : Nat) (hk : k < i) (ha : a ≤ k + 1) :
    w.cell? ⟨g, k, none⟩ = some (.int .i64 ((off l (q + (k + 1 - a)) : Nat) : Int)) ∧ w.frozen? ⟨g, k, none⟩ = false := by
  obtain ⟨h6, h7⟩ := Kd.R_celln (enc := Value.int .i64) (h1 := fun _ => rfl) 0 h3 (k : Int) (by omega) (by omega)
  rw [Int.toNat_natCast] at h6 h7
  refine ⟨?_, h7⟩
  rw [h6]
  have h8 := h5 k hk ha
  simp [rdOf, List.getD_eq_getElem?_getD, h8]
theorem Stk.cut {l : List Int} {base : Nat} {w : World} {g cap : Nat} {xs : List Int} {a q i : Nat} (h2 : xs.length = i) (h3 : Kd.R (Kd.int .i64) 3 w base (fun _ => True) (.slice (some ⟨g, 0, none⟩) i cap) xs) (hg : base ≤ g)
    (h0 : 0 < a) (hai : a ≤ i) : Stk l base (w.setCell ⟨g, a - 1, none⟩ (.int .i64 ((off l (q + 1) : Nat) : Int))) (.slice (some ⟨g, 0, none⟩) a cap) a (q + 1) a := by
  have h6 := Kd.R_putn (enc := Value.int .i64) (h1 := fun _ => rfl) h3 ((a - 1 : Nat) : Int) ((off l (q + 1) : Nat) : Int)
  rw [Int.toNat_natCast] at h6
  have h7 := Kd.R_take (m := a) h6 (by rw [List.length_set]; omega)
  refine ⟨g, cap, _, rfl, ?_, h7, hg, ?_⟩
  · rw [List.length_take, List.length_set]; omega
  · intro k hk hak
    obtain rfl : k = a - 1 := by omega
    rw [List.getElem?_take, if_pos hk, List.getElem?_set, if_pos rfl, if_pos (by omega)]
    rw [show q + 1 + (a - 1 + 1 - a) = q + 1 by omega]
theorem Stk.push {l : List Int} {base : Nat} {w : World} {v1 : Value} {xs : List Int} {a q i : Nat} (h2 : xs.length = i) (h3 : Kd.R (Kd.int .i64) 3 w base (fun _ => True) v1 (xs ++ [((off l (q + (i + 1 - a)) : Nat) : Int)]))
    (h5 : ∀ k, k < i → a ≤ k + 1 → xs[k]? = some ((off l (q + (k + 1 - a)) : Nat) : Int)) : Stk l base w v1 a q (i + 1) := by
  have hl : (xs ++ [((off l (q + (i + 1 - a)) : Nat) : Int)]).length = i + 1 := by rw [List.length_append, h2]; rfl
  obtain ⟨g, cap, rfl, hg, _⟩ := Kd.R_form h3 (by rw [hl]; omega)
  rw [hl] at h3 ⊢
  refine ⟨g, cap, _, rfl, hl, h3, hg, ?_⟩
  intro k hk hak
  rcases Nat.lt_or_ge k i with h | h
  · rw [List.getElem?_append_left (by omega)]
    exact h5 k h hak
  · obtain rfl : k = i := by omega
    rw [List.getElem?_append_right (by omega), h2, Nat.sub_self]
    rfl
theorem Stk.push_any {l : List Int} {base : Nat} {w : World} {v1 : Value} {xs : List Int} {p i : Nat} (h2 : xs.length = i) (h3 : Kd.R (Kd.int .i64) 3 w base (fun _ => True) v1 (xs ++ [((off l p : Nat) : Int)])) : Stk l base w v1 (i + 1) p (i + 1) := by
  have hl : (xs ++ [((off l p : Nat) : Int)]).length = i + 1 := by rw [List.length_append, h2]; rfl
  obtain ⟨g, cap, rfl, hg, _⟩ := Kd.R_form h3 (by rw [hl]; omega)
  rw [hl] at h3 ⊢
  refine ⟨g, cap, _, rfl, hl, h3, hg, ?_⟩
  intro k hk hak
  obtain rfl : k = i := by omega
  rw [List.getElem?_append_right (by omega), h2, Nat.sub_self, Nat.sub_self]
  rfl
/-- an empty stack -/
theorem Stk.start {l : List Int} {w : World} {b : Nat} (n : Nat) (hn : n ≤ 100) (hb : w.heap.size = b) : Stk l b (w.alloc (.cells (Array.replicate n (Value.int .i64 0)) 3)) (.slice (some ⟨b, 0, none⟩) 0 n) 0 0 0 := by
  subst hb
  refine ⟨w.heap.size, n, [], rfl, rfl, ?_, Nat.le_refl _, fun k hk => absurd hk (by omega)⟩
  have h1 : (w.alloc (.cells (Array.replicate n (Value.int .i64 0)) 3)).ownsRow w.heap.size 3 1 (.slice (some ⟨w.heap.size, 0, none⟩) n n) n (encs (Value.int .i64) (List.replicate n 0)) := by
    refine ⟨by simp [encs], .inr ⟨w.heap.size, n, Array.replicate n (Value.int .i64 0), rfl, Nat.le_refl _, heap_alloc_new _ _, ?_⟩⟩
    have hm : n ≤ maxLen := by unfold maxLen; omega
    simp [encs, hm]
  have h2 : Kd.R (Kd.int .i64) 3 (w.alloc (.cells (Array.replicate n (Value.int .i64 0)) 3)) w.heap.size (fun _ => True) (.slice (some ⟨w.heap.size, 0, none⟩) n n) (List.replicate n 0) :=
    Kd.R_of_own (enc := Value.int .i64) (h1 := fun _ => rfl) (by rw [List.length_replicate]; exact h1) (fun _ _ => trivial)
  have h3 := Kd.R_take (m := 0) h2 (Nat.zero_le _)
  exact h3
@[go_sem] theorem ta_one (o x : Int) (w : World) : (Instr.typeAssert (.iface 108 (.agg #[.int .i32 o, .int .i32 x])) 114 109 true).run Tryd.prog w = .ok (.tuple #[.agg #[], .bool false]) w := by kernel_rfl
@[go_sem] theorem ta_any (w : World) : (Instr.typeAssert (.iface 109 (.agg #[])) 114 109 true).run Tryd.prog w = .ok (.tuple #[.agg #[], .bool true]) w := by kernel_rfl
theorem mk_some (w : World) (n : Nat) (h : n ≤ 12) : (Instr.makeSlice 79 (.int .i64 0) (.int .i64 n)).run Tryd.prog w = .ok (.slice (some ⟨w.heap.size, 0, none⟩) 0 n) (w.alloc (.cells (Array.replicate n (Value.int .i64 0)) 3)) := by
  obtain rfl | rfl | rfl | rfl | rfl | rfl | rfl | rfl | rfl | rfl | rfl | rfl | rfl : n = 0 ∨ n = 1 ∨ n = 2 ∨ n = 3 ∨ n = 4 ∨ n = 5 ∨ n = 6 ∨ n = 7 ∨ n = 8 ∨ n = 9 ∨ n = 10 ∨ n = 11 ∨ n = 12 := by omega
  all_goals kernel_rfl
theorem match_tk (fold : Bool) (o x c : Int) (hc : okR c = true) (hx : x = -1 ∨ 0 ≤ x) (w : World) :
    Calls Tryd.prog 171 #[.agg #[.int .i32 o, .int .i32 x], colV fold, .int .i32 c] w fun e w' => e = .returned (.tuple #[.bool (tk (gF fold) x c), .bool (tk (gF fold) x c)]) ∧ Below w.heap.size w w' := by
  rcases hx with rfl | hx
  · exact match_wild fold o c hc w
  · obtain ⟨n, rfl⟩ : ∃ n : Nat, x = n := ⟨x.toNat, by omega⟩
    have ht : tk (gF fold) (n : Int) c = (gF fold c == (n : Int)) := by unfold tk; rw [decide_eq_false (by omega)]; rfl
    rw [ht]
    exact match_one fold o c n hc w
theorem infoI64 : (Tryd.prog.info? 3).map (fun i => (i.zero, i.size, i.bytes)) = some (some (.int .i64 0), 1, 8) := by kernel_rfl
end Go.Proofs.YthicaehcoingeaaDoor.PLK
