/-
  Positions (MySQLRangeCut) as plain data, and the contracts of their methods Compare, over this seat's translation. No condition.
-/
import Derived.Test.YtlcoodjkolponaaDoorPRG0
import Derived.Defers
import Derived.Recover
import Derived.Deep.RegionWith
import Derived.Deep.QuietTactic
import Derived.BigQuiet
import Derived.WalkSpells
import Derived.Lib.Hide
import Derived.Outline
namespace Go.Proofs.YtlcoodjkolponaaDoor.PRG
open Go.RowKit Go.Proofs.YtlcoodjkolponaaDoorW.PrintWords Go.Proofs.YtlcoodjkolponaaDoorW.PrintLast Go.Proofs.YtlcoodjkolponaaDoorW.PrintMore
set_option linter.unusedVariables false
set_option maxRecDepth 100000

/-- A position. -/
inductive C where
  | bn | an | be (k : Int) | ab (k : Int) | aa
def C.ty : C → TypeId
  | .bn => 121 | .an => 122 | .be _ => 124 | .ab _ => 125 | .aa => 126
def C.pay : C → Value
  | .be k | .ab k => .agg #[.iface 2 (.int .i64 k)]
  | _ => .agg #[]
def C.fn : C → Nat
  | .bn => 168 | .an => 172 | .be _ => 176 | .ab _ => 193 | .aa => 197
/-- Two keys compared: -1, 0, 1. -/
def cmpK (a b : Int) : Int := if a < b then -1 else if b < a then 1 else 0
def cmpC : C → C → Int
  | .bn, .bn => 0 | .bn, _ => -1
  | .an, .an => 0 | .an, .bn => 1 | .an, _ => -1
  | .be _, .aa => -1 | .be _, .an => 1 | .be _, .bn => 1
  | .be a, .be b => cmpK a b
  | .be a, .ab b => if cmpK b a = -1 then 1 else -1
  | .ab _, .aa => -1 | .ab _, .an => 1 | .ab _, .bn => 1
  | .ab a, .ab b => cmpK a b
  | .ab a, .be b => if cmpK a b = -1 then -1 else 1
  | .aa, .aa => 0 | .aa, _ => 1
/-- The columns' type. -/
abbrev typV : Value := .iface 75 (.agg #[])

@[go_sem] theorem nil_ahead (c : C) (w : World) (n : Nat) : (nilAhead (n + 1) c.ty c.pay "Compare").run Tryd.prog w = .ok (some false) w := by
  cases c <;> kernel_rfl
@[go_sem] theorem method_cmp (c : C) (w : World) (n : Nat) : (method (n + 1) c.ty c.pay "Compare").run Tryd.prog w = .ok (c.fn, c.pay) w := by
  cases c <;> kernel_rfl
@[go_sem] theorem method_typ (w : World) (n : Nat) : (method (n + 1) 75 (.agg #[]) "Compare").run Tryd.prog w = .ok (155, .agg #[]) w := by
  kernel_rfl

@[go_sem] theorem ta_bn_bn (v : Value) (w : World) : (Instr.typeAssert (.iface 121 v) 71 121 true).run Tryd.prog w = .ok (.tuple #[v, .bool true]) w := by kernel_rfl
@[go_sem] theorem ta_bn_an (v : Value) (w : World) : (Instr.typeAssert (.iface 121 v) 71 122 true).run Tryd.prog w = .ok (.tuple #[(.agg #[]), .bool false]) w := by kernel_rfl
@[go_sem] theorem ta_bn_be (v : Value) (w : World) : (Instr.typeAssert (.iface 121 v) 71 124 true).run Tryd.prog w = .ok (.tuple #[(.agg #[.nilIface]), .bool false]) w := by kernel_rfl
@[go_sem] theorem ta_bn_ab (v : Value) (w : World) : (Instr.typeAssert (.iface 121 v) 71 125 true).run Tryd.prog w = .ok (.tuple #[(.agg #[.nilIface]), .bool false]) w := by kernel_rfl
@[go_sem] theorem ta_bn_aa (v : Value) (w : World) : (Instr.typeAssert (.iface 121 v) 71 126 true).run Tryd.prog w = .ok (.tuple #[(.agg #[]), .bool false]) w := by kernel_rfl
@[go_sem] theorem ta_an_bn (v : Value) (w : World) : (Instr.typeAssert (.iface 122 v) 71 121 true).run Tryd.prog w = .ok (.tuple #[(.agg #[]), .bool false]) w := by kernel_rfl
@[go_sem] theorem ta_an_an (v : Value) (w : World) : (Instr.typeAssert (.iface 122 v) 71 122 true).run Tryd.prog w = .ok (.tuple #[v, .bool true]) w := by kernel_rfl
@[go_sem] theorem ta_an_be (v : Value) (w : World) : (Instr.typeAssert (.iface 122 v) 71 124 true).run Tryd.prog w = .ok (.tuple #[(.agg #[.nilIface]), .bool false]) w := by kernel_rfl
@[go_sem] theorem ta_an_ab (v : Value) (w : World) : (Instr.typeAssert (.iface 122 v) 71 125 true).run Tryd.prog w = .ok (.tuple #[(.agg #[.nilIface]), .bool false]) w := by kernel_rfl
@[go_sem] theorem ta_an_aa (v : Value) (w : World) : (Instr.typeAssert (.iface 122 v) 71 126 true).run Tryd.prog w = .ok (.tuple #[(.agg #[]), .bool false]) w := by kernel_rfl
@[go_sem] theorem ta_be_bn (v : Value) (w : World) : (Instr.typeAssert (.iface 124 v) 71 121 true).run Tryd.prog w = .ok (.tuple #[(.agg #[]), .bool false]) w := by kernel_rfl
@[go_sem] theorem ta_be_an (v : Value) (w : World) : (Instr.typeAssert (.iface 124 v) 71 122 true).run Tryd.prog w = .ok (.tuple #[(.agg #[]), .bool false]) w := by kernel_rfl
@[go_sem] theorem ta_be_be (v : Value) (w : World) : (Instr.typeAssert (.iface 124 v) 71 124 true).run Tryd.prog w = .ok (.tuple #[v, .bool true]) w := by kernel_rfl
@[go_sem] theorem ta_be_ab (v : Value) (w : World) : (Instr.typeAssert (.iface 124 v) 71 125 true).run Tryd.prog w = .ok (.tuple #[(.agg #[.nilIface]), .bool false]) w := by kernel_rfl
@[go_sem] theorem ta_be_aa (v : Value) (w : World) : (Instr.typeAssert (.iface 124 v) 71 126 true).run Tryd.prog w = .ok (.tuple #[(.agg #[]), .bool false]) w := by kernel_rfl
@[go_sem] theorem ta_ab_bn (v : Value) (w : World) : (Instr.typeAssert (.iface 125 v) 71 121 true).run Tryd.prog w = .ok (.tuple #[(.agg #[]), .bool false]) w := by kernel_rfl
@[go_sem] theorem ta_ab_an (v : Value) (w : World) : (Instr.typeAssert (.iface 125 v) 71 122 true).run Tryd.prog w = .ok (.tuple #[(.agg #[]), .bool false]) w := by kernel_rfl
@[go_sem] theorem ta_ab_be (v : Value) (w : World) : (Instr.typeAssert (.iface 125 v) 71 124 true).run Tryd.prog w = .ok (.tuple #[(.agg #[.nilIface]), .bool false]) w := by kernel_rfl
@[go_sem] theorem ta_ab_ab (v : Value) (w : World) : (Instr.typeAssert (.iface 125 v) 71 125 true).run Tryd.prog w = .ok (.tuple #[v, .bool true]) w := by kernel_rfl
@[go_sem] theorem ta_ab_aa (v : Value) (w : World) : (Instr.typeAssert (.iface 125 v) 71 126 true).run Tryd.prog w = .ok (.tuple #[(.agg #[]), .bool false]) w := by kernel_rfl
@[go_sem] theorem ta_aa_bn (v : Value) (w : World) : (Instr.typeAssert (.iface 126 v) 71 121 true).run Tryd.prog w = .ok (.tuple #[(.agg #[]), .bool false]) w := by kernel_rfl
@[go_sem] theorem ta_aa_an (v : Value) (w : World) : (Instr.typeAssert (.iface 126 v) 71 122 true).run Tryd.prog w = .ok (.tuple #[(.agg #[]), .bool false]) w := by kernel_rfl
@[go_sem] theorem ta_aa_be (v : Value) (w : World) : (Instr.typeAssert (.iface 126 v) 71 124 true).run Tryd.prog w = .ok (.tuple #[(.agg #[.nilIface]), .bool false]) w := by kernel_rfl
@[go_sem] theorem ta_aa_ab (v : Value) (w : World) : (Instr.typeAssert (.iface 126 v) 71 125 true).run Tryd.prog w = .ok (.tuple #[(.agg #[.nilIface]), .bool false]) w := by kernel_rfl
@[go_sem] theorem ta_aa_aa (v : Value) (w : World) : (Instr.typeAssert (.iface 126 v) 71 126 true).run Tryd.prog w = .ok (.tuple #[v, .bool true]) w := by kernel_rfl
@[go_sem] theorem ta_key (k : Int) (w : World) : (Instr.typeAssert (.iface 2 (.int .i64 k)) 20 2 true).run Tryd.prog w = .ok (.tuple #[.int .i64 k, .bool true]) w := by kernel_rfl
@[go_sem] theorem ta_key1 (k : Int) (w : World) : (Instr.typeAssert (.iface 2 (.int .i64 k)) 20 2 false).run Tryd.prog w = .ok (.int .i64 k) w := by kernel_rfl

theorem cmp_keys (a b : Int) (w : World) :
    Calls Tryd.prog 155 #[.agg #[], .iface 2 (.int .i64 a), .iface 2 (.int .i64 b)] w fun e w' => e = .returned (.tuple #[.int .i64 (cmpK a b), .nilIface]) ∧ Below w.heap.size w w' := by
  by_cases h1 : a < b
  · have e : cmpK a b = -1 := if_pos h1
    rw [e]
    clear e
    go_enter Tryd.func155, Tryd.ntmps155
    go_wp2
    go_ret2
    exact ⟨rfl, below_alloc (Below.refl _ _) _⟩
  · by_cases h2 : b < a
    · have e : cmpK a b = 1 := by unfold cmpK; rw [if_neg h1, if_pos h2]
      rw [e]
      clear e
      go_enter Tryd.func155, Tryd.ntmps155
      go_wp2
      go_ret2
      exact ⟨rfl, below_alloc (Below.refl _ _) _⟩
    · have e : cmpK a b = 0 := by unfold cmpK; rw [if_neg h1, if_neg h2]
      rw [e]
      clear e
      go_enter Tryd.func155, Tryd.ntmps155
      go_wp2
      go_ret2
      exact ⟨rfl, below_alloc (Below.refl _ _) _⟩
theorem cmp_bn_bn (w : World) :
    Calls Tryd.prog 168 #[(.agg #[]), .iface 121 (.agg #[]), typV] w fun e w' => e = .returned (.tuple #[.int .i64 (cmpC (.bn) (.bn)), .nilIface]) ∧ Below w.heap.size w w' := by
  simp only [cmpC]
  go_enter Tryd.func168, Tryd.ntmps168
  go_wp2
  go_ret2
  exact ⟨rfl, (by repeat (first | (with_reducible exact Below.refl _ _) | (with_reducible apply below_alloc) | (with_reducible apply below_drew)))⟩
theorem cmp_bn_an (w : World) :
    Calls Tryd.prog 168 #[(.agg #[]), .iface 122 (.agg #[]), typV] w fun e w' => e = .returned (.tuple #[.int .i64 (cmpC (.bn) (.an)), .nilIface]) ∧ Below w.heap.size w w' := by
  simp only [cmpC]
  go_enter Tryd.func168, Tryd.ntmps168
  go_wp2
  go_ret2
  exact ⟨rfl, (by repeat (first | (with_reducible exact Below.refl _ _) | (with_reducible apply below_alloc) | (with_reducible apply below_drew)))⟩
theorem cmp_bn_be (y : Int) (w : World) :
    Calls Tryd.prog 168 #[(.agg #[]), .iface 124 (.agg #[.iface 2 (.int .i64 y)]), typV] w fun e w' => e = .returned (.tuple #[.int .i64 (cmpC (.bn) (.be y)), .nilIface]) ∧ Below w.heap.size w w' := by
  simp only [cmpC]
  go_enter Tryd.func168, Tryd.ntmps168
  go_wp2
  go_ret2
  exact ⟨rfl, (by repeat (first | (with_reducible exact Below.refl _ _) | (with_reducible apply below_alloc) | (with_reducible apply below_drew)))⟩
theorem cmp_bn_ab (y : Int) (w : World) :
    Calls Tryd.prog 168 #[(.agg #[]), .iface 125 (.agg #[.iface 2 (.int .i64 y)]), typV] w fun e w' => e = .returned (.tuple #[.int .i64 (cmpC (.bn) (.ab y)), .nilIface]) ∧ Below w.heap.size w w' := by
  simp only [cmpC]
  go_enter Tryd.func168, Tryd.ntmps168
  go_wp2
  go_ret2
  exact ⟨rfl, (by repeat (first | (with_reducible exact Below.refl _ _) | (with_reducible apply below_alloc) | (with_reducible apply below_drew)))⟩
theorem cmp_bn_aa (w : World) :
    Calls Tryd.prog 168 #[(.agg #[]), .iface 126 (.agg #[]), typV] w fun e w' => e = .returned (.tuple #[.int .i64 (cmpC (.bn) (.aa)), .nilIface]) ∧ Below w.heap.size w w' := by
  simp only [cmpC]
  go_enter Tryd.func168, Tryd.ntmps168
  go_wp2
  go_ret2
  exact ⟨rfl, (by repeat (first | (with_reducible exact Below.refl _ _) | (with_reducible apply below_alloc) | (with_reducible apply below_drew)))⟩
theorem cmp_an_bn (w : World) :
    Calls Tryd.prog 172 #[(.agg #[]), .iface 121 (.agg #[]), typV] w fun e w' => e = .returned (.tuple #[.int .i64 (cmpC (.an) (.bn)), .nilIface]) ∧ Below w.heap.size w w' := by
  simp only [cmpC]
  go_enter Tryd.func172, Tryd.ntmps172
  go_wp2
  go_ret2
  exact ⟨rfl, (by repeat (first | (with_reducible exact Below.refl _ _) | (with_reducible apply below_alloc) | (with_reducible apply below_drew)))⟩
theorem cmp_an_an (w : World) :
    Calls Tryd.prog 172 #[(.agg #[]), .iface 122 (.agg #[]), typV] w fun e w' => e = .returned (.tuple #[.int .i64 (cmpC (.an) (.an)), .nilIface]) ∧ Below w.heap.size w w' := by
  simp only [cmpC]
  go_enter Tryd.func172, Tryd.ntmps172
  go_wp2
  go_ret2
  exact ⟨rfl, (by repeat (first | (with_reducible exact Below.refl _ _) | (with_reducible apply below_alloc) | (with_reducible apply below_drew)))⟩
theorem cmp_an_be (y : Int) (w : World) :
    Calls Tryd.prog 172 #[(.agg #[]), .iface 124 (.agg #[.iface 2 (.int .i64 y)]), typV] w fun e w' => e = .returned (.tuple #[.int .i64 (cmpC (.an) (.be y)), .nilIface]) ∧ Below w.heap.size w w' := by
  simp only [cmpC]
  go_enter Tryd.func172, Tryd.ntmps172
  go_wp2
  go_ret2
  exact ⟨rfl, (by repeat (first | (with_reducible exact Below.refl _ _) | (with_reducible apply below_alloc) | (with_reducible apply below_drew)))⟩
theorem cmp_an_ab (y : Int) (w : World) :
    Calls Tryd.prog 172 #[(.agg #[]), .iface 125 (.agg #[.iface 2 (.int .i64 y)]), typV] w fun e w' => e = .returned (.tuple #[.int .i64 (cmpC (.an) (.ab y)), .nilIface]) ∧ Below w.heap.size w w' := by
  simp only [cmpC]
  go_enter Tryd.func172, Tryd.ntmps172
  go_wp2
  go_ret2
  exact ⟨rfl, (by repeat (first | (with_reducible exact Below.refl _ _) | (with_reducible apply below_alloc) | (with_reducible apply below_drew)))⟩
theorem cmp_an_aa (w : World) :
    Calls Tryd.prog 172 #[(.agg #[]), .iface 126 (.agg #[]), typV] w fun e w' => e = .returned (.tuple #[.int .i64 (cmpC (.an) (.aa)), .nilIface]) ∧ Below w.heap.size w w' := by
  simp only [cmpC]
  go_enter Tryd.func172, Tryd.ntmps172
  go_wp2
  go_ret2
  exact ⟨rfl, (by repeat (first | (with_reducible exact Below.refl _ _) | (with_reducible apply below_alloc) | (with_reducible apply below_drew)))⟩
theorem cmp_be_bn (x : Int) (w : World) :
    Calls Tryd.prog 176 #[(.agg #[.iface 2 (.int .i64 x)]), .iface 121 (.agg #[]), typV] w fun e w' => e = .returned (.tuple #[.int .i64 (cmpC (.be x) (.bn)), .nilIface]) ∧ Below w.heap.size w w' := by
  simp only [cmpC]
  go_enter Tryd.func176, Tryd.ntmps176
  go_wp2
  go_ret2
  exact ⟨rfl, (by repeat (first | (with_reducible exact Below.refl _ _) | (with_reducible apply below_alloc) | (with_reducible apply below_drew)))⟩
theorem cmp_be_an (x : Int) (w : World) :
    Calls Tryd.prog 176 #[(.agg #[.iface 2 (.int .i64 x)]), .iface 122 (.agg #[]), typV] w fun e w' => e = .returned (.tuple #[.int .i64 (cmpC (.be x) (.an)), .nilIface]) ∧ Below w.heap.size w w' := by
  simp only [cmpC]
  go_enter Tryd.func176, Tryd.ntmps176
  go_wp2
  go_ret2
  exact ⟨rfl, (by repeat (first | (with_reducible exact Below.refl _ _) | (with_reducible apply below_alloc) | (with_reducible apply below_drew)))⟩
theorem cmp_be_be (x : Int) (y : Int) (w : World) :
    Calls Tryd.prog 176 #[(.agg #[.iface 2 (.int .i64 x)]), .iface 124 (.agg #[.iface 2 (.int .i64 y)]), typV] w fun e w' => e = .returned (.tuple #[.int .i64 (cmpC (.be x) (.be y)), .nilIface]) ∧ Below w.heap.size w w' := by
  simp only [cmpC]
  go_enter Tryd.func176, Tryd.ntmps176
  go_wp2_with (go_at_call 155; refine (cmp_keys _ _ _).mono ?_; rintro e w' ⟨rfl, hb⟩)
  go_ret2
  exact ⟨rfl, below_step (by repeat (first | (with_reducible exact Below.refl _ _) | (with_reducible apply below_alloc) | (with_reducible apply below_drew))) hb⟩
theorem cmp_be_ab (x : Int) (y : Int) (w : World) :
    Calls Tryd.prog 176 #[(.agg #[.iface 2 (.int .i64 x)]), .iface 125 (.agg #[.iface 2 (.int .i64 y)]), typV] w fun e w' => e = .returned (.tuple #[.int .i64 (cmpC (.be x) (.ab y)), .nilIface]) ∧ Below w.heap.size w w' := by
  by_cases h : cmpK y x = -1
  · have hB : (cmpK y x == -1) = true := beq_iff_eq.2 h
    have e : cmpC (.be x) (.ab y) = 1 := if_pos h
    rw [e]
    clear e h
    go_enter Tryd.func176, Tryd.ntmps176
    go_wp2_with (go_at_call 155; refine (cmp_keys _ _ _).mono ?_; rintro e w' ⟨rfl, hb⟩)
    go_ret2
    exact ⟨rfl, below_step (by repeat (first | (with_reducible exact Below.refl _ _) | (with_reducible apply below_alloc) | (with_reducible apply below_drew))) hb⟩
  · have hB : (cmpK y x == -1) = false := beq_eq_false_iff_ne.2 h
    have e : cmpC (.be x) (.ab y) = -1 := if_neg h
    rw [e]
    clear e h
    go_enter Tryd.func176, Tryd.ntmps176
    go_wp2_with (go_at_call 155; refine (cmp_keys _ _ _).mono ?_; rintro e w' ⟨rfl, hb⟩)
    go_ret2
    exact ⟨rfl, below_step (by repeat (first | (with_reducible exact Below.refl _ _) | (with_reducible apply below_alloc) | (with_reducible apply below_drew))) hb⟩
theorem cmp_be_aa (x : Int) (w : World) :
    Calls Tryd.prog 176 #[(.agg #[.iface 2 (.int .i64 x)]), .iface 126 (.agg #[]), typV] w fun e w' => e = .returned (.tuple #[.int .i64 (cmpC (.be x) (.aa)), .nilIface]) ∧ Below w.heap.size w w' := by
  simp only [cmpC]
  go_enter Tryd.func176, Tryd.ntmps176
  go_wp2
  go_ret2
  exact ⟨rfl, (by repeat (first | (with_reducible exact Below.refl _ _) | (with_reducible apply below_alloc) | (with_reducible apply below_drew)))⟩
theorem cmp_ab_bn (x : Int) (w : World) :
    Calls Tryd.prog 193 #[(.agg #[.iface 2 (.int .i64 x)]), .iface 121 (.agg #[]), typV] w fun e w' => e = .returned (.tuple #[.int .i64 (cmpC (.ab x) (.bn)), .nilIface]) ∧ Below w.heap.size w w' := by
  simp only [cmpC]
  go_enter Tryd.func193, Tryd.ntmps193
  go_wp2
  go_ret2
  exact ⟨rfl, (by repeat (first | (with_reducible exact Below.refl _ _) | (with_reducible apply below_alloc) | (with_reducible apply below_drew)))⟩
theorem cmp_ab_an (x : Int) (w : World) :
    Calls Tryd.prog 193 #[(.agg #[.iface 2 (.int .i64 x)]), .iface 122 (.agg #[]), typV] w fun e w' => e = .returned (.tuple #[.int .i64 (cmpC (.ab x) (.an)), .nilIface]) ∧ Below w.heap.size w w' := by
  simp only [cmpC]
  go_enter Tryd.func193, Tryd.ntmps193
  go_wp2
  go_ret2
  exact ⟨rfl, (by repeat (first | (with_reducible exact Below.refl _ _) | (with_reducible apply below_alloc) | (with_reducible apply below_drew)))⟩
theorem cmp_ab_be (x : Int) (y : Int) (w : World) :
    Calls Tryd.prog 193 #[(.agg #[.iface 2 (.int .i64 x)]), .iface 124 (.agg #[.iface 2 (.int .i64 y)]), typV] w fun e w' => e = .returned (.tuple #[.int .i64 (cmpC (.ab x) (.be y)), .nilIface]) ∧ Below w.heap.size w w' := by
  by_cases h : cmpK x y = -1
  · have hB : (cmpK x y == -1) = true := beq_iff_eq.2 h
    have e : cmpC (.ab x) (.be y) = -1 := if_pos h
    rw [e]
    clear e h
    go_enter Tryd.func193, Tryd.ntmps193
    go_wp2_with (go_at_call 155; refine (cmp_keys _ _ _).mono ?_; rintro e w' ⟨rfl, hb⟩)
    go_ret2
    exact ⟨rfl, below_step (by repeat (first | (with_reducible exact Below.refl _ _) | (with_reducible apply below_alloc) | (with_reducible apply below_drew))) hb⟩
  · have hB : (cmpK x y == -1) = false := beq_eq_false_iff_ne.2 h
    have e : cmpC (.ab x) (.be y) = 1 := if_neg h
    rw [e]
    clear e h
    go_enter Tryd.func193, Tryd.ntmps193
    go_wp2_with (go_at_call 155; refine (cmp_keys _ _ _).mono ?_; rintro e w' ⟨rfl, hb⟩)
    go_ret2
    exact ⟨rfl, below_step (by repeat (first | (with_reducible exact Below.refl _ _) | (with_reducible apply below_alloc) | (with_reducible apply below_drew))) hb⟩
theorem cmp_ab_ab (x : Int) (y : Int) (w : World) :
    Calls Tryd.prog 193 #[(.agg #[.iface 2 (.int .i64 x)]), .iface 125 (.agg #[.iface 2 (.int .i64 y)]), typV] w fun e w' => e = .returned (.tuple #[.int .i64 (cmpC (.ab x) (.ab y)), .nilIface]) ∧ Below w.heap.size w w' := by
  simp only [cmpC]
  go_enter Tryd.func193, Tryd.ntmps193
  go_wp2_with (go_at_call 155; refine (cmp_keys _ _ _).mono ?_; rintro e w' ⟨rfl, hb⟩)
  go_ret2
  exact ⟨rfl, below_step (by repeat (first | (with_reducible exact Below.refl _ _) | (with_reducible apply below_alloc) | (with_reducible apply below_drew))) hb⟩
theorem cmp_ab_aa (x : Int) (w : World) :
    Calls Tryd.prog 193 #[(.agg #[.iface 2 (.int .i64 x)]), .iface 126 (.agg #[]), typV] w fun e w' => e = .returned (.tuple #[.int .i64 (cmpC (.ab x) (.aa)), .nilIface]) ∧ Below w.heap.size w w' := by
  simp only [cmpC]
  go_enter Tryd.func193, Tryd.ntmps193
  go_wp2
  go_ret2
  exact ⟨rfl, (by repeat (first | (with_reducible exact Below.refl _ _) | (with_reducible apply below_alloc) | (with_reducible apply below_drew)))⟩
theorem cmp_aa_bn (w : World) :
    Calls Tryd.prog 197 #[(.agg #[]), .iface 121 (.agg #[]), typV] w fun e w' => e = .returned (.tuple #[.int .i64 (cmpC (.aa) (.bn)), .nilIface]) ∧ Below w.heap.size w w' := by
  simp only [cmpC]
  go_enter Tryd.func197, Tryd.ntmps197
  go_wp2
  go_ret2
  exact ⟨rfl, (by repeat (first | (with_reducible exact Below.refl _ _) | (with_reducible apply below_alloc) | (with_reducible apply below_drew)))⟩
theorem cmp_aa_an (w : World) :
    Calls Tryd.prog 197 #[(.agg #[]), .iface 122 (.agg #[]), typV] w fun e w' => e = .returned (.tuple #[.int .i64 (cmpC (.aa) (.an)), .nilIface]) ∧ Below w.heap.size w w' := by
  simp only [cmpC]
  go_enter Tryd.func197, Tryd.ntmps197
  go_wp2
  go_ret2
  exact ⟨rfl, (by repeat (first | (with_reducible exact Below.refl _ _) | (with_reducible apply below_alloc) | (with_reducible apply below_drew)))⟩
theorem cmp_aa_be (y : Int) (w : World) :
    Calls Tryd.prog 197 #[(.agg #[]), .iface 124 (.agg #[.iface 2 (.int .i64 y)]), typV] w fun e w' => e = .returned (.tuple #[.int .i64 (cmpC (.aa) (.be y)), .nilIface]) ∧ Below w.heap.size w w' := by
  simp only [cmpC]
  go_enter Tryd.func197, Tryd.ntmps197
  go_wp2
  go_ret2
  exact ⟨rfl, (by repeat (first | (with_reducible exact Below.refl _ _) | (with_reducible apply below_alloc) | (with_reducible apply below_drew)))⟩
theorem cmp_aa_ab (y : Int) (w : World) :
    Calls Tryd.prog 197 #[(.agg #[]), .iface 125 (.agg #[.iface 2 (.int .i64 y)]), typV] w fun e w' => e = .returned (.tuple #[.int .i64 (cmpC (.aa) (.ab y)), .nilIface]) ∧ Below w.heap.size w w' := by
  simp only [cmpC]
  go_enter Tryd.func197, Tryd.ntmps197
  go_wp2
  go_ret2
  exact ⟨rfl, (by repeat (first | (with_reducible exact Below.refl _ _) | (with_reducible apply below_alloc) | (with_reducible apply below_drew)))⟩
theorem cmp_aa_aa (w : World) :
    Calls Tryd.prog 197 #[(.agg #[]), .iface 126 (.agg #[]), typV] w fun e w' => e = .returned (.tuple #[.int .i64 (cmpC (.aa) (.aa)), .nilIface]) ∧ Below w.heap.size w w' := by
  simp only [cmpC]
  go_enter Tryd.func197, Tryd.ntmps197
  go_wp2
  go_ret2
  exact ⟨rfl, (by repeat (first | (with_reducible exact Below.refl _ _) | (with_reducible apply below_alloc) | (with_reducible apply below_drew)))⟩
theorem cmp_ok (c d : C) (w : World) :
    Calls Tryd.prog c.fn #[c.pay, .iface d.ty d.pay, typV] w fun e w' => e = .returned (.tuple #[.int .i64 (cmpC c d), .nilIface]) ∧ Below w.heap.size w w' := by
  cases c <;> cases d
  · exact cmp_bn_bn w
  · exact cmp_bn_an w
  · exact cmp_bn_be _ w
  · exact cmp_bn_ab _ w
  · exact cmp_bn_aa w
  · exact cmp_an_bn w
  · exact cmp_an_an w
  · exact cmp_an_be _ w
  · exact cmp_an_ab _ w
  · exact cmp_an_aa w
  · exact cmp_be_bn _ w
  · exact cmp_be_an _ w
  · exact cmp_be_be _ _ w
  · exact cmp_be_ab _ _ w
  · exact cmp_be_aa _ w
  · exact cmp_ab_bn _ w
  · exact cmp_ab_an _ w
  · exact cmp_ab_be _ _ w
  · exact cmp_ab_ab _ _ w
  · exact cmp_ab_aa _ w
  · exact cmp_aa_bn w
  · exact cmp_aa_an w
  · exact cmp_aa_be _ w
  · exact cmp_aa_ab _ w
  · exact cmp_aa_aa w
end Go.Proofs.YtlcoodjkolponaaDoor.PRG
