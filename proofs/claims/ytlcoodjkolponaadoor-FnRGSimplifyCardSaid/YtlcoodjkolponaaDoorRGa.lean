/-
  Contracts of impl.RGCompare, RGMax, RGMin and of what they call, over this seat's translation. No condition but on lengths (at most 1000).
-/
import Derived.Test.YtlcoodjkolponaaDoorCut
import Derived.LoopTactic
import Derived.Deep.RegionHeld3
namespace Go.Proofs.YtlcoodjkolponaaDoor.PRG
open Go.RowKit Go.Proofs.YtlcoodjkolponaaDoorW.PrintWords Go.Proofs.YtlcoodjkolponaaDoorW.PrintLast Go.Proofs.YtlcoodjkolponaaDoorW.PrintMore
set_option linter.unusedVariables false
set_option maxRecDepth 100000

def C.of (k key : Int) : C := if k = 0 then .bn else if k = 1 then .an else if k = 2 then .be key else if k = 3 then .ab key else .aa
def C.kind : C → Int
  | .bn => 0 | .an => 1 | .be _ => 2 | .ab _ => 3 | .aa => 4
def C.key : C → Int
  | .be k | .ab k => k | _ => 0

@[go_sem] theorem call_cmp (c : C) (args : Array Value) (w : World) : (callFunc c.fn args).run Tryd.prog w = .ok (.enter c.fn args) w := by
  cases c <;> rfl
@[go_sem] theorem make_meth (m : String) (x : Value) (w : World) : (Instr.makeFunc (.method m) #[x] #[]).run Tryd.prog w = .ok (.func (.method m) #[x] #[]) w := rfl

theorem below_alloc2 {w : World} (o : Obj) : Below w.heap.size w (w.alloc o) := below_alloc (Below.refl _ _) o

theorem cut_ok (k key : Int) (w : World) :
    Calls Tryd.prog 48 #[.agg #[.int .i64 k, .int .i64 key]] w fun e w' => e = .returned (.iface (C.of k key).ty (C.of k key).pay) ∧ Below w.heap.size w w' := by
  unfold C.of
  by_cases h0 : k = 0
  · subst h0
    go_enter Tryd.func48, Tryd.ntmps48
    go_wp2
    go_ret
    exact ⟨rfl, below_alloc2 _⟩
  · rw [if_neg h0]
    have b0 : (k == 0) = false := beq_eq_false_iff_ne.2 h0
    clear h0
    by_cases h1 : k = 1
    · subst h1
      clear b0
      go_enter Tryd.func48, Tryd.ntmps48
      go_wp2
      go_ret
      exact ⟨rfl, below_alloc2 _⟩
    · rw [if_neg h1]
      have b1 : (k == 1) = false := beq_eq_false_iff_ne.2 h1
      clear h1
      by_cases h2 : k = 2
      · subst h2
        clear b0 b1
        go_enter Tryd.func48, Tryd.ntmps48
        go_wp2
        go_ret
        exact ⟨rfl, below_alloc2 _⟩
      · rw [if_neg h2]
        have b2 : (k == 2) = false := beq_eq_false_iff_ne.2 h2
        clear h2
        by_cases h3 : k = 3
        · subst h3
          clear b0 b1 b2
          go_enter Tryd.func48, Tryd.ntmps48
          go_wp2
          go_ret
          exact ⟨rfl, below_alloc2 _⟩
        · rw [if_neg h3]
          have b3 : (k == 3) = false := beq_eq_false_iff_ne.2 h3
          clear h3
          go_enter Tryd.func48, Tryd.ntmps48
          go_wp2
          go_ret
          exact ⟨rfl, below_alloc2 _⟩

theorem caught_idle (p : Addr) (w : World) :
    CallsD Tryd.prog 47 #[.pointer (some p)] .returning w fun e u' w' => e = .returned (.tuple #[]) ∧ u' = .returning ∧ w' = w := by
  refine callsD_of_wpS Tryd.func47 rfl fun c₀ cs hu => ?_
  apply wpS_seq
  apply wpS_region
  simp [wpOpsS, go_sem, recoverD, hu, Tryd.ntmps47, Exit.thenS]
  refine wpS_cond (t := false) (by simp [Act.eval, Array.replicate]) ?_
  simp only [Bool.false_eq_true, if_false]
  refine wpS_of_wp (wp_skip ?_)
  cases c₀
  simp_all [bodyPostS, results, Tryd.results47]

/-- What a cell holds, whatever it is. -/
def peek (W : World) (a : Addr) : Value := (W.cell? a).getD undef
theorem peek_of {W : World} {a : Addr} {v : Value} (h : W.cell? a = some v) : W.cell? a = some (peek W a) := by
  unfold peek; rw [h]; rfl
theorem peek_some {W : World} {a : Addr} (h : (W.cell? a).isSome = true) : W.cell? a = some (peek W a) := by
  obtain ⟨v, hv⟩ := Option.isSome_iff_exists.1 h
  exact peek_of hv
theorem keep_frozen {w w1 : World} {a : Addr} {v : Value} (hb : Below w.heap.size w w1) (hc : w.cell? a = some v) (hz : w.frozen? a = false) : w1.frozen? a = false :=
  (hb.frozen (World.block_lt_of_cell? w a hc)).trans hz

/-- The end of a function that has deferred caught, and didn't panic. -/
theorem ends_caught {fn : Func} {R : Ending → World → Prop} {tmps : Array Value} {p : Addr} {W : World} {v : Value} (hres : (results fn tmps).run Tryd.prog W = .ok v W) (hR : R (.returned v) W) :
    bodyPostD Tryd.prog fn R .ret { tmps := tmps, defers := [{ target := .fn (.func 47) #[], args := #[.pointer (some p)] }] } W := by
  refine leaves_cons (f := 47) (args := #[.pointer (some p)]) (by simp) (by simp [go_sem]) ?_
  refine (caught_idle p _).mono ?_
  rintro e u' w'' ⟨rfl, rfl, rfl⟩
  exact ⟨v, hres, hR⟩

set_option maxHeartbeats 1000000 in
theorem RGCompare_ok (k1 x1 k2 x2 : Int) (w : World) :
    Calls Tryd.prog 11 #[.agg #[.int .i64 k1, .int .i64 x1], .agg #[.int .i64 k2, .int .i64 x2]] w fun e w' => e = .returned (.tuple #[.int .i64 (cmpC (C.of k1 x1) (C.of k2 x2)), .bool true]) ∧ Below w.heap.size w w' := by
  go_enter_defers Tryd.func11, Tryd.ntmps11
  go_wp2
  go_region_held3 (fun W => W.cell? ⟨w.heap.size, 0, none⟩ = some (.int .i64 k1) ∧ W.cell? ⟨w.heap.size, 1, none⟩ = some (.int .i64 x1) ∧ W.cell? ⟨w.heap.size + 1, 0, none⟩ = some (.int .i64 k2) ∧ W.cell? ⟨w.heap.size + 1, 1, none⟩ = some (.int .i64 x2) ∧ W.cell? ⟨w.heap.size + 1 + 1, 0, none⟩ = some (.bool false) ∧ W.frozen? ⟨w.heap.size + 1 + 1, 0, none⟩ = false ∧ Below w.heap.size w W)
    (first | (go_split_ands; refine ⟨?_, ?_, ?_, ?_, ?_, ?_, ?_⟩ <;> assumption) | (go_split_ands; exact ⟨pw_cell_below hb (by assumption), pw_cell_below hb (by assumption), pw_cell_below hb (by assumption), pw_cell_below hb (by assumption), pw_cell_below hb (by assumption), keep_frozen hb (by assumption) (by assumption), below_step (by assumption) hb⟩) | (refine ⟨?_, ?_, ?_, ?_, ?_, ?_, ?_⟩; (iterate 6 (focus (simp [go_sem]; done))); repeat (first | (with_reducible exact Below.refl _ _) | (with_reducible apply below_alloc) | (with_reducible apply below_drew))))
    (first | (go_at_call 48; refine (cut_ok _ _ _).mono ?_; rintro e w1 ⟨rfl, hb⟩) | ((with_reducible refine (cmp_ok _ _ _).mono ?_); rintro e w3 ⟨rfl, hb⟩))
  all_goals go_wp2
  all_goals
    obtain ⟨-, -, -, -, hc, hz, hB⟩ := (by assumption : w3.cell? ⟨w.heap.size, 0, none⟩ = some (.int .i64 k1) ∧ w3.cell? ⟨w.heap.size, 1, none⟩ = some (.int .i64 x1) ∧ w3.cell? ⟨w.heap.size + 1, 0, none⟩ = some (.int .i64 k2) ∧ w3.cell? ⟨w.heap.size + 1, 1, none⟩ = some (.int .i64 x2) ∧ w3.cell? ⟨w.heap.size + 1 + 1, 0, none⟩ = some (.bool false) ∧ w3.frozen? ⟨w.heap.size + 1 + 1, 0, none⟩ = false ∧ Below w.heap.size w w3)
    go_region
  all_goals go_wp2
  all_goals exact ends_caught (v := .tuple #[.int .i64 (cmpC (C.of k1 x1) (C.of k2 x2)), .bool true]) (by simp [results, Tryd.results11, go_sem, hc]) ⟨rfl, below_drew (hB.setCell (by simp; omega) _)⟩
end Go.Proofs.YtlcoodjkolponaaDoor.PRG
