/-
  Contracts of a node's methods, of unicode/utf8.DecodeRuneInString at a place of the law's texts, and of LikeMatcher.backtrack. Condition: the ten characters of the law, at most 100; utf8's two tables as laid.
-/
import Derived.Test.YthicaehcoingeaaDoorLKs
import Derived.Test.YthicaehcoingeaaDoorShelfL
import Derived.LoopTactic
import Derived.Deep.RegionHeld3
import Derived.BigCall
import Derived.Laws.IdiomStrings
namespace Go.Proofs.YthicaehcoingeaaDoor.PLK
open Go.RowKit Go.Proofs.YthicaehcoingeaaDoorW.PrintWords Go.Proofs.YthicaehcoingeaaDoorW.PrintLast Go.Proofs.YthicaehcoingeaaDoorW.PrintMore
set_option linter.unusedVariables false
set_option linter.unusedSimpArgs false
set_option maxRecDepth 100000

abbrev ND := Option (Int × Int)
def encN : ND → Value
  | none => .iface 109 (.agg #[])
  | some (o, x) => .iface 108 (.agg #[.int .i32 o, .int .i32 x])
def kN : Kd ND := Kd.scalar encN (fun x => by cases x <;> rfl)
def wtN (ns : List ND) : List (Option Int) := ns.map fun x => x.map (·.2)
def Glob (w : World) : Prop := Lib.Utf8Tabs 5 6 w
theorem Glob.later {w w' : World} (h : Glob w) (hb : Below w.heap.size w w') : Glob w' :=
  ⟨fun c hc => (hb.cell (World.block_lt_of_cell? w _ (h.1 c hc))).trans (h.1 c hc), fun i hi => ⟨(hb.cell (World.block_lt_of_cell? w _ (h.2 i hi).1)).trans (h.2 i hi).1, (hb.cell (World.block_lt_of_cell? w _ (h.2 i hi).2)).trans (h.2 i hi).2⟩⟩
theorem at_N {w : World} {A : Option Addr} {n : Nat} {xs : List ND} (h : Kd.C kN w A n xs) (i : Nat) (x : ND) (hx : xs[i]? = some x) (h1 : i < n) : ∃ ad, A = some ad ∧ w.cell? (ad.add i) = some (encN x) := by
  obtain ⟨ad, c, e, _, hK, hc0⟩ := Kd.C_get h none (i : Int) (by omega) (by omega)
  have hc : ∀ j u, c[j]? = some u → w.cell? (ad.add ((i : Int).toNat * 1 + j)) = some u := hc0
  rw [Int.toNat_natCast] at hK hc
  have hg : xs.getD i none = x := by rw [List.getD_eq_getElem?_getD, hx]; rfl
  have hK' : c = [encN (xs.getD i none)] := hK
  rw [hg] at hK'
  subst hK'
  exact ⟨ad, e, by have hq := hc 0 _ rfl; rwa [Nat.mul_one, Nat.add_zero] at hq⟩
theorem dec_call (l : List Int) (hl : l.all okR = true) (k : Nat) (c : Int) (h : l[k]? = some c) (w : World) (hT : Glob w) :
    Calls Tryd.prog 71 #[.string ((runesBytes l).extract (off l k) (runesBytes l).size)] w fun e w' => e = .returned (.tuple #[.int .i32 c, .int .i64 ((bt c).length : Int)]) ∧ Below w.heap.size w w' := by
  obtain ⟨h1, h2⟩ := dec_at l hl k c h
  have h3 := Tryd.utf8_DecodeRuneInString ((runesBytes l).extract (off l k) (runesBytes l).size) w hT
  rw [off_succ l k c h, Nat.add_sub_cancel_left] at h2
  rw [h1, h2] at h3
  exact h3
/-- the text's characters are no error signs -/
theorem okR_ne (c : Int) (h : okR c = true) : (c == 65533) = false := by
  rcases okR_cases h with rfl | rfl | rfl | rfl | rfl | rfl | rfl | rfl | rfl | rfl <;> rfl

/-- the collation: by its function's number -/
def colV (fold : Bool) : Value := .func (.func (if fold then 43 else 42)) #[] #[]
theorem weight_ok (c : Int) (w : World) : Calls Tryd.prog 42 #[.int .i32 c] w fun e w' => e = .returned (.int .i32 c) ∧ w' = w := by
  go_enter Tryd.func42, Tryd.ntmps42
  go_wp2
  go_ret
  exact ⟨rfl, rfl⟩
theorem folded_ok (c : Int) (h : okR c = true) (w : World) : Calls Tryd.prog 43 #[.int .i32 c] w fun e w' => e = .returned (.int .i32 (gF true c)) ∧ w' = w := by
  rcases okR_cases h with rfl | rfl | rfl | rfl | rfl | rfl | rfl | rfl | rfl | rfl
  all_goals
    go_enter Tryd.func43, Tryd.ntmps43
    go_wp2
    go_ret
    exact ⟨rfl, rfl⟩

@[go_sem] theorem na1 (o x : Int) (w : World) (n : Nat) : (nilAhead (n + 1) 108 (.agg #[.int .i32 o, .int .i32 x]) "Match").run Tryd.prog w = .ok (some false) w := by kernel_rfl
@[go_sem] theorem na2 (o x : Int) (w : World) (n : Nat) : (nilAhead (n + 1) 108 (.agg #[.int .i32 o, .int .i32 x]) "MatchNext").run Tryd.prog w = .ok (some false) w := by kernel_rfl
@[go_sem] theorem na3 (w : World) (n : Nat) : (nilAhead (n + 1) 109 (.agg #[]) "Match").run Tryd.prog w = .ok (some false) w := by kernel_rfl
@[go_sem] theorem na4 (w : World) (n : Nat) : (nilAhead (n + 1) 109 (.agg #[]) "MatchNext").run Tryd.prog w = .ok (some false) w := by kernel_rfl
@[go_sem] theorem me1 (o x : Int) (w : World) (n : Nat) : (method (n + 1) 108 (.agg #[.int .i32 o, .int .i32 x]) "Match").run Tryd.prog w = .ok (171, .agg #[.int .i32 o, .int .i32 x]) w := by kernel_rfl
@[go_sem] theorem me2 (o x : Int) (w : World) (n : Nat) : (method (n + 1) 108 (.agg #[.int .i32 o, .int .i32 x]) "MatchNext").run Tryd.prog w = .ok (172, .agg #[.int .i32 o, .int .i32 x]) w := by kernel_rfl
@[go_sem] theorem me3 (w : World) (n : Nat) : (method (n + 1) 109 (.agg #[]) "Match").run Tryd.prog w = .ok (173, .agg #[]) w := by kernel_rfl
@[go_sem] theorem me4 (w : World) (n : Nat) : (method (n + 1) 109 (.agg #[]) "MatchNext").run Tryd.prog w = .ok (174, .agg #[]) w := by kernel_rfl
theorem next_one (o x : Int) (col : Value) (c : Int) (w : World) : Calls Tryd.prog 172 #[.agg #[.int .i32 o, .int .i32 x], col, .int .i32 c] w fun e w' => e = .returned (.bool false) ∧ Below w.heap.size w w' := by
  go_enter Tryd.func172, Tryd.ntmps172
  go_wp2
  go_ret
  exact ⟨rfl, below_alloc (Below.refl _ _) _⟩
theorem next_any (col : Value) (c : Int) (w : World) : Calls Tryd.prog 174 #[.agg #[], col, .int .i32 c] w fun e w' => e = .returned (.bool true) ∧ Below w.heap.size w w' := by
  go_enter Tryd.func174, Tryd.ntmps174
  go_wp2
  go_ret
  exact ⟨rfl, below_alloc (Below.refl _ _) _⟩
theorem match_any (col : Value) (c : Int) (w : World) : Calls Tryd.prog 173 #[.agg #[], col, .int .i32 c] w fun e w' => e = .returned (.tuple #[.bool true, .bool false]) ∧ Below w.heap.size w w' := by
  go_enter Tryd.func173, Tryd.ntmps173
  go_wp2
  go_ret2
  exact ⟨rfl, below_alloc (Below.refl _ _) _⟩

theorem gF_false (c : Int) : gF false c = c := rfl
theorem col_ok (fold : Bool) (c : Int) (hc : okR c = true) (w : World) : Calls Tryd.prog (if fold then 43 else 42) #[.int .i32 c] w fun e w' => e = .returned (.int .i32 (gF fold c)) ∧ Below w.heap.size w w' := by
  cases fold
  · exact (weight_ok c w).mono fun e w' h => ⟨h.1, h.2 ▸ Below.refl _ _⟩
  · exact (folded_ok c hc w).mono fun e w' h => ⟨h.1, h.2 ▸ Below.refl _ _⟩
theorem match_wild (fold : Bool) (o c : Int) (hc : okR c = true) (w : World) :
    Calls Tryd.prog 171 #[.agg #[.int .i32 o, .int .i32 (-1)], colV fold, .int .i32 c] w fun e w' => e = .returned (.tuple #[.bool true, .bool true]) ∧ Below w.heap.size w w' := by
  unfold colV
  generalize (if fold then 43 else 42 : Nat) = fid
  go_enter Tryd.func171, Tryd.ntmps171
  go_wp2
  go_region
  all_goals go_wp2
  all_goals go_ret2
  all_goals exact ⟨rfl, by repeat (first | (with_reducible exact Below.refl _ _) | (with_reducible apply below_drew) | (with_reducible apply pw_below_drewN) | (with_reducible apply below_drew1) | (with_reducible apply below_alloc))⟩

theorem match_one (fold : Bool) (o c : Int) (n : Nat) (hc : okR c = true) (w : World) :
    Calls Tryd.prog 171 #[.agg #[.int .i32 o, .int .i32 (n : Int)], colV fold, .int .i32 c] w fun e w' => e = .returned (.tuple #[.bool (gF fold c == n), .bool (gF fold c == n)]) ∧ Below w.heap.size w w' := by
  have HF := Aside0.mk (fun W => col_ok fold c hc W)
  unfold colV
  generalize gF fold c = y at HF ⊢
  cases fold
  · replace HF := Aside0.mk (show ∀ W, Calls Tryd.prog 42 #[.int .i32 c] W (fun e w' => e = .returned (.int .i32 y) ∧ Below W.heap.size W w') from HF.out)
    show Calls Tryd.prog 171 #[.agg #[.int .i32 o, .int .i32 (n : Int)], .func (.func 42) #[] #[], .int .i32 c] w _
    cases hq : (y == (n : Int))
    all_goals
      go_enter Tryd.func171, Tryd.ntmps171
      go_wp2
      go_region_held3 (fun W => W.cell? ⟨w.heap.size, 1, none⟩ = some (.int .i32 (n : Int)) ∧ Below w.heap.size w W)
        (first | (go_split_ands; refine ⟨?_, ?_⟩ <;> assumption) | (go_split_ands; exact ⟨pw_cell_below hb (by assumption), below_step (by assumption) hb⟩) | (refine ⟨?_, ?_⟩; (iterate 1 (focus (simp [go_sem]; done))); repeat (first | (with_reducible exact Below.refl _ _) | (with_reducible apply below_alloc) | (with_reducible apply below_drew))))
        (first | ((with_reducible refine (HF.out _).mono ?_); rintro e w3 ⟨rfl, hb⟩))
      all_goals go_wp2
      all_goals go_ret2
      all_goals
        obtain ⟨-, hB⟩ := (by assumption : w3.cell? ⟨w.heap.size, 1, none⟩ = some (.int .i32 (n : Int)) ∧ Below w.heap.size w w3)
      all_goals exact ⟨rfl, by repeat (first | (with_reducible exact hB) | (with_reducible apply below_drew) | (with_reducible apply pw_below_drewN) | (with_reducible apply below_drew1) | (with_reducible apply below_alloc))⟩
  · replace HF := Aside0.mk (show ∀ W, Calls Tryd.prog 43 #[.int .i32 c] W (fun e w' => e = .returned (.int .i32 y) ∧ Below W.heap.size W w') from HF.out)
    show Calls Tryd.prog 171 #[.agg #[.int .i32 o, .int .i32 (n : Int)], .func (.func 43) #[] #[], .int .i32 c] w _
    cases hq : (y == (n : Int))
    all_goals
      go_enter Tryd.func171, Tryd.ntmps171
      go_wp2
      go_region_held3 (fun W => W.cell? ⟨w.heap.size, 1, none⟩ = some (.int .i32 (n : Int)) ∧ Below w.heap.size w W)
        (first | (go_split_ands; refine ⟨?_, ?_⟩ <;> assumption) | (go_split_ands; exact ⟨pw_cell_below hb (by assumption), below_step (by assumption) hb⟩) | (refine ⟨?_, ?_⟩; (iterate 1 (focus (simp [go_sem]; done))); repeat (first | (with_reducible exact Below.refl _ _) | (with_reducible apply below_alloc) | (with_reducible apply below_drew))))
        (first | ((with_reducible refine (HF.out _).mono ?_); rintro e w3 ⟨rfl, hb⟩))
      all_goals go_wp2
      all_goals go_ret2
      all_goals
        obtain ⟨-, hB⟩ := (by assumption : w3.cell? ⟨w.heap.size, 1, none⟩ = some (.int .i32 (n : Int)) ∧ Below w.heap.size w w3)
      all_goals exact ⟨rfl, by repeat (first | (with_reducible exact hB) | (with_reducible apply below_drew) | (with_reducible apply pw_below_drewN) | (with_reducible apply below_drew1) | (with_reducible apply below_alloc))⟩
end Go.Proofs.YthicaehcoingeaaDoor.PLK
