/-
  Contracts of MySQLRange.IsSubsetOf, IsSupersetOf, Equals, IsEmpty: column by column. No condition but that there are at most 1000 columns, as many in both.
-/
import Derived.Test.YtlcoodjkolponaaDoorRRa
import Derived.Test.YtlcoodjkolponaaDoorRGb
namespace Go.Proofs.YtlcoodjkolponaaDoor.PRR
open Go.RowKit Go.Proofs.YtlcoodjkolponaaDoorW.PrintWords Go.Proofs.YtlcoodjkolponaaDoorW.PrintLast Go.Proofs.YtlcoodjkolponaaDoorW.PrintMore
open Go.Proofs.YtlcoodjkolponaaDoor.PRG (C cmpC typV)
set_option linter.unusedVariables false
set_option linter.unusedSimpArgs false
set_option maxRecDepth 100000
set_option maxHeartbeats 1000000

def subE (p q : C × C) : Bool := !(cmpC p.1 q.1 == -1) && !(cmpC p.2 q.2 == 1)
def eqE (p q : C × C) : Bool := cmpC p.1 q.1 == 0 && cmpC p.2 q.2 == 0
def noneE (p : C × C) : Bool := decide (0 ≤ cmpC p.1 p.2)
def all2 (f : C × C → C × C → Bool) (a b : List (C × C)) : Bool := (a.zip b).all fun z => f z.1 z.2
theorem all2_take (f : C × C → C × C → Bool) (a b : List (C × C)) (k : Nat) (ha : k < a.length) (hb : k < b.length) : all2 f (a.take (k + 1)) (b.take (k + 1)) = (all2 f (a.take k) (b.take k) && f a[k] b[k]) := by
  unfold all2
  rw [List.take_succ_eq_append_getElem ha, List.take_succ_eq_append_getElem hb, List.zip_append (by simp; omega), List.all_append]
  simp
theorem all2_no (f : C × C → C × C → Bool) (a b : List (C × C)) (k : Nat) (ha : k < a.length) (hb : k < b.length) (h : f a[k] b[k] = false) : all2 f a b = false := by
  unfold all2
  refine List.all_eq_false.2 ⟨(a[k], b[k]), ?_, by simp [h]⟩
  rw [List.mem_iff_getElem]
  exact ⟨k, by rw [List.length_zip]; omega, List.getElem_zip ..⟩
theorem isSub_ok (p q : C × C) (w : World) : Calls Tryd.prog 61 #[.agg #[.iface p.1.ty p.1.pay, .iface p.2.ty p.2.pay, typV], .agg #[.iface q.1.ty q.1.pay, .iface q.2.ty q.2.pay, typV]] w fun e w' => e = .returned (.tuple #[.bool (subE p q), .nilIface]) ∧ Below w.heap.size w w' := PRG.isSubsetOf_ok p.1 p.2 q.1 q.2 w
theorem isEq_ok (p q : C × C) (w : World) : Calls Tryd.prog 60 #[.agg #[.iface p.1.ty p.1.pay, .iface p.2.ty p.2.pay, typV], .agg #[.iface q.1.ty q.1.pay, .iface q.2.ty q.2.pay, typV]] w fun e w' => e = .returned (.tuple #[.bool (eqE p q), .nilIface]) ∧ Below w.heap.size w w' := PRG.equals_ok p.1 p.2 q.1 q.2 w
theorem isNone_ok (p : C × C) (w : World) : Calls Tryd.prog 64 #[.agg #[.iface p.1.ty p.1.pay, .iface p.2.ty p.2.pay, typV]] w fun e w' => e = .returned (.tuple #[.bool (noneE p), .nilIface]) ∧ Below w.heap.size w w' := PRG.isEmpty_ok p.1 p.2 w
theorem rrSub_ok (n : Nat) (A1 : Option Addr) (c1 : Nat) (a : List (C × C)) (A2 : Option Addr) (c2 : Nat) (b : List (C × C)) (hl : n ≤ 1000) (ha : a.length = n) (hb : b.length = n) (w : World) (hA : Kd.C kE w A1 n a) (hB : Kd.C kE w A2 n b) :
    Calls Tryd.prog 74 #[.slice A1 n c1, .slice A2 n c2] w fun e w' => e = .returned (.tuple #[.bool (all2 subE a b), .nilIface]) ∧ Below w.heap.size w w' := by
  have HA := Aside0.mk (fun W (h : Below w.heap.size w W) => Kd.C_below hA h)
  have HB := Aside0.mk (fun W (h : Below w.heap.size w W) => Kd.C_below hB h)
  have La := Aside0.mk ha
  have Lb := Aside0.mk hb
  clear hA hB ha hb
  go_enter Tryd.func74, Tryd.ntmps74
  go_wp2
  go_loopw [16] (fun t wr => ∃ k : Nat, t = .int .i64 (k : Int) ∧ k ≤ n ∧ Aside0 (all2 subE (a.take k) (b.take k) = true) ∧ Aside0 (Below w.heap.size w wr)) (fun t _ => n - (intOf t).toNat)
  case atStart => exact ⟨0, rfl, Nat.zero_le _, ⟨rfl⟩, ⟨Below.refl _ _⟩⟩
  case round =>
    obtain ⟨k, rfl, hk, HT, HW⟩ := hrel
    rcases Nat.lt_or_ge k n with hlt | hge
    · have hka : k < a.length := by rw [La.out]; exact hlt
      have hkb : k < b.length := by rw [Lb.out]; exact hlt
      obtain ⟨ad, rfl, g0, g1, g2⟩ := at_E (HA.out wr HW.out) k hlt hka
      obtain ⟨bd, rfl, f0, f1, f2⟩ := at_E (HB.out wr HW.out) k hlt hkb
      have HT1 := Aside0.mk (all2_take subE a b k hka hkb)
      have HN := Aside0.mk (all2_no subE a b k hka hkb)
      have HE := Aside0.mk (isSub_ok a[k] b[k])
      generalize a[k] = p at *
      generalize b[k] = q at *
      generalize p.1 = p1 at *
      generalize p.2 = p2 at *
      generalize q.1 = q1 at *
      generalize q.2 = q2 at *
      clear hka hkb
      cases hq : subE p q
      all_goals
        rw [hq] at HE HT1
        go_wp2
        go_region_with (go_at_call 61; refine (HE.out _).mono ?_; rintro e w2 ⟨rfl, hb2⟩; have HW2 : Aside0 (Below w.heap.size w w2) := ⟨by first | exact HW.out.trans (hb2.mono HW.out.size) | exact (below_drew HW.out).trans (hb2.mono HW.out.size)⟩; clear hb2)
        all_goals go_wp2
        all_goals first
          | (go_ret2
             exact ⟨by rw [HN.out hq] <;> rfl, by repeat (first | (with_reducible exact HW2.out) | (with_reducible apply below_drew) | (refine below_alloc ?_ _))⟩)
          | (go_roundw
             case rel => exact ⟨k + 1, by go_num, by omega, ⟨by rw [HT1.out, HT.out]; rfl⟩, ⟨by repeat (first | (with_reducible exact HW2.out) | (with_reducible apply below_drew) | (refine below_alloc ?_ _))⟩⟩
             case measure => simp [intOf]; omega)
    · obtain rfl : k = n := by omega
      have hr : all2 subE a b = true := by have h := HT.out; rwa [List.take_of_length_le (by rw [La.out]; exact Nat.le_refl _), List.take_of_length_le (by rw [Lb.out]; exact Nat.le_refl _)] at h
      have HRes := Aside0.mk hr
      clear hr
      go_wp2
      go_ret2
      exact ⟨by rw [HRes.out] <;> rfl, HW.out⟩
theorem rrSup_ok (n : Nat) (A1 : Option Addr) (c1 : Nat) (a : List (C × C)) (A2 : Option Addr) (c2 : Nat) (b : List (C × C)) (hl : n ≤ 1000) (ha : a.length = n) (hb : b.length = n) (w : World) (hA : Kd.C kE w A1 n a) (hB : Kd.C kE w A2 n b) :
    Calls Tryd.prog 75 #[.slice A1 n c1, .slice A2 n c2] w fun e w' => e = .returned (.tuple #[.bool (all2 subE b a), .nilIface]) ∧ Below w.heap.size w w' := by
  have H := Aside0.mk (rrSub_ok n A2 c2 b A1 c1 a hl hb ha w hB hA)
  clear hA hB ha hb
  generalize all2 subE b a = r at *
  go_enter Tryd.func75, Tryd.ntmps75
  go_wp2_with (go_at_call 74; refine H.out.mono ?_; rintro e w2 ⟨rfl, hb2⟩)
  go_ret2
  exact ⟨rfl, hb2⟩
@[go_sem] theorem ta_rng (A : Option Addr) (n c : Nat) (w : World) : (Instr.typeAssert (.iface 87 (.slice A n c)) 114 87 true).run Tryd.prog w = .ok (.tuple #[.slice A n c, .bool true]) w := by kernel_rfl
theorem rrEq_ok (n : Nat) (A1 : Option Addr) (c1 : Nat) (a : List (C × C)) (A2 : Option Addr) (c2 : Nat) (b : List (C × C)) (hl : n ≤ 1000) (ha : a.length = n) (hb : b.length = n) (w : World) (hA : Kd.C kE w A1 n a) (hB : Kd.C kE w A2 n b) :
    Calls Tryd.prog 73 #[.slice A1 n c1, .iface 87 (.slice A2 n c2)] w fun e w' => e = .returned (.tuple #[.bool (all2 eqE a b), .nilIface]) ∧ Below w.heap.size w w' := by
  have HA := Aside0.mk (fun W (h : Below w.heap.size w W) => Kd.C_below hA h)
  have HB := Aside0.mk (fun W (h : Below w.heap.size w W) => Kd.C_below hB h)
  have La := Aside0.mk ha
  have Lb := Aside0.mk hb
  clear hA hB ha hb
  go_enter Tryd.func73, Tryd.ntmps73
  go_wp2
  go_loopw [25] (fun t wr => ∃ k : Nat, t = .int .i64 (k : Int) ∧ k ≤ n ∧ Aside0 (all2 eqE (a.take k) (b.take k) = true) ∧ Aside0 (Below w.heap.size w wr)) (fun t _ => n - (intOf t).toNat)
  case atStart => exact ⟨0, rfl, Nat.zero_le _, ⟨rfl⟩, ⟨Below.refl _ _⟩⟩
  case round =>
    obtain ⟨k, rfl, hk, HT, HW⟩ := hrel
    rcases Nat.lt_or_ge k n with hlt | hge
    · have hka : k < a.length := by rw [La.out]; exact hlt
      have hkb : k < b.length := by rw [Lb.out]; exact hlt
      obtain ⟨ad, rfl, g0, g1, g2⟩ := at_E (HA.out wr HW.out) k hlt hka
      obtain ⟨bd, rfl, f0, f1, f2⟩ := at_E (HB.out wr HW.out) k hlt hkb
      have HT1 := Aside0.mk (all2_take eqE a b k hka hkb)
      have HN := Aside0.mk (all2_no eqE a b k hka hkb)
      have HE := Aside0.mk (isEq_ok a[k] b[k])
      generalize a[k] = p at *
      generalize b[k] = q at *
      generalize p.1 = p1 at *
      generalize p.2 = p2 at *
      generalize q.1 = q1 at *
      generalize q.2 = q2 at *
      clear hka hkb
      cases hq : eqE p q
      all_goals
        rw [hq] at HE HT1
        go_wp2
        go_region_with (go_at_call 60; refine (HE.out _).mono ?_; rintro e w2 ⟨rfl, hb2⟩; have HW2 : Aside0 (Below w.heap.size w w2) := ⟨by first | exact HW.out.trans (hb2.mono HW.out.size) | exact (below_drew HW.out).trans (hb2.mono HW.out.size)⟩; clear hb2)
        all_goals go_wp2
        all_goals first
          | (go_ret2
             exact ⟨by rw [HN.out hq] <;> rfl, by repeat (first | (with_reducible exact HW2.out) | (with_reducible apply below_drew) | (refine below_alloc ?_ _))⟩)
          | (go_roundw
             case rel => exact ⟨k + 1, by go_num, by omega, ⟨by rw [HT1.out, HT.out]; rfl⟩, ⟨by repeat (first | (with_reducible exact HW2.out) | (with_reducible apply below_drew) | (refine below_alloc ?_ _))⟩⟩
             case measure => simp [intOf]; omega)
    · obtain rfl : k = n := by omega
      have hr : all2 eqE a b = true := by have h := HT.out; rwa [List.take_of_length_le (by rw [La.out]; exact Nat.le_refl _), List.take_of_length_le (by rw [Lb.out]; exact Nat.le_refl _)] at h
      have HRes := Aside0.mk hr
      clear hr
      go_wp2
      go_ret2
      exact ⟨by rw [HRes.out] <;> rfl, HW.out⟩
theorem rrNone_ok (n : Nat) (A1 : Option Addr) (c1 : Nat) (a : List (C × C)) (hn : 0 < n) (hl : n ≤ 1000) (ha : a.length = n) (w : World) (hA : Kd.C kE w A1 n a) :
    Calls Tryd.prog 77 #[.slice A1 n c1] w fun e w' => e = .returned (.tuple #[.bool (a.any noneE), .nilIface]) ∧ Below w.heap.size w w' := by
  have HA := Aside0.mk (fun W (h : Below w.heap.size w W) => Kd.C_below hA h)
  have La := Aside0.mk ha
  clear hA ha
  have hn0 : ((n : Int) == 0) = false := by simp; omega
  go_enter Tryd.func77, Tryd.ntmps77
  go_wp2
  go_loopw [12] (fun t wr => ∃ k : Nat, t = .int .i64 (k : Int) ∧ k ≤ n ∧ Aside0 ((a.take k).any noneE = false) ∧ Aside0 (Below w.heap.size w wr)) (fun t _ => n - (intOf t).toNat)
  case atStart => exact ⟨0, rfl, Nat.zero_le _, ⟨rfl⟩, ⟨Below.refl _ _⟩⟩
  case round =>
    obtain ⟨k, rfl, hk, HT, HW⟩ := hrel
    rcases Nat.lt_or_ge k n with hlt | hge
    · have hka : k < a.length := by rw [La.out]; exact hlt
      obtain ⟨ad, rfl, g0, g1, g2⟩ := at_E (HA.out wr HW.out) k hlt hka
      have HT1 : Aside0 ((a.take (k + 1)).any noneE = ((a.take k).any noneE || noneE a[k])) := ⟨by rw [List.take_succ_eq_append_getElem hka, List.any_append]; simp⟩
      have HN : Aside0 (noneE a[k] = true → a.any noneE = true) := ⟨fun h => List.any_eq_true.2 ⟨a[k], List.getElem_mem _, h⟩⟩
      have HE := Aside0.mk (isNone_ok a[k])
      generalize a[k] = p at *
      generalize p.1 = p1 at *
      generalize p.2 = p2 at *
      clear hka
      cases hq : noneE p
      all_goals
        rw [hq] at HE HT1
        go_wp2_with (go_at_call 64; refine (HE.out _).mono ?_; rintro e w2 ⟨rfl, hb2⟩; have HW2 : Aside0 (Below w.heap.size w w2) := ⟨by first | exact HW.out.trans (hb2.mono HW.out.size) | exact (below_drew HW.out).trans (hb2.mono HW.out.size)⟩; clear hb2)
        first
          | (go_ret2
             exact ⟨by rw [HN.out hq] <;> rfl, HW2.out⟩)
          | (go_roundw
             case rel => exact ⟨k + 1, by go_num, by omega, ⟨by rw [HT1.out, HT.out]; rfl⟩, HW2⟩
             case measure => simp [intOf]; omega)
    · obtain rfl : k = n := by omega
      have hr : a.any noneE = false := by have h := HT.out; rwa [List.take_of_length_le (by rw [La.out]; exact Nat.le_refl _)] at h
      have HRes := Aside0.mk hr
      clear hr
      go_wp2
      go_ret2
      exact ⟨by rw [HRes.out] <;> rfl, HW.out⟩
end Go.Proofs.YtlcoodjkolponaaDoor.PRR
