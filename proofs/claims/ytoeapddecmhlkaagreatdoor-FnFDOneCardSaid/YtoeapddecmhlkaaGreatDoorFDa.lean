/-
  Contracts of impl.columns and impl.ids at small sets. Condition: columns from 1 to 64; math/bits.deBruijn64tab as laid.
-/
import Derived.Test.YtoeapddecmhlkaaGreatDoorProg
import Derived.Test.YtoeapddecmhlkaaGreatDoorWMore
import Derived.Test.YtoeapddecmhlkaaGreatDoorWLast
import Derived.Below
import Derived.Deep.Draws
import Derived.Deep.AppendLies
import Derived.Maps.AppendAt
import Derived.OwnWalk
import Derived.Laws.BytesArg
import Derived.Laws.MakeOwn
import Derived.Laws.OwnMore
import Derived.Deep.OwnRows
import Derived.Tactics
import Derived.Lib.ConvBytes
import Derived.Laws.Slices
import Derived.WalkKit
import Derived.KernelRfl
import Derived.RowKit3
import Derived.Deep.LoopGhost
import Derived.Deep.QuietTactic
import Derived.BigQuiet
import Derived.WideLaws
import Derived.Deep.DeepCutAuto
import Derived.Deep.CutBlock
import Derived.Deep.RegionHeld3
import Derived.Laws.Rows
import Derived.Lib.AppendStr
import Derived.ArgAppend
import Derived.Laws.IdiomCopy
import Derived.OrdersHeld
import Derived.Laws.BitsLemmas
import Derived.RowKit
import Derived.LoopTactic
import Derived.BigCall
import Derived.Lib.Builder
import Derived.Laws.BitsAllLaws
import Derived.Lib.EndianBits
import Derived.Deep.RegionLaw
import Derived.Outline
import Derived.Laws.EntriesVeiled
import Derived.Shelf.Spec.TrailingZeros
import Derived.RegionTactic
namespace Go.Proofs.YtoeapddecmhlkaaGreatDoor.FD
open Go.RowKit Go.Proofs.YtoeapddecmhlkaaGreatDoorW.PrintWords Go.Proofs.YtoeapddecmhlkaaGreatDoorW.PrintLast Go.Proofs.YtoeapddecmhlkaaGreatDoorW.PrintMore
set_option linter.unusedVariables false
set_option linter.unusedSimpArgs false
set_option maxRecDepth 100000
set_option maxHeartbeats 400000

theorem infoI64 : (Tryz.prog.info? 3).map (fun i => (i.zero, i.size, i.bytes)) = some (some (.int .i64 0), 1, 8) := by kernel_rfl
def Bits (m k : Nat) (l : List Int) : Prop := ∀ y : Int, y ∈ l ↔ ∃ j : Nat, y = j ∧ j < k ∧ m.testBit j = true
theorem heap_lt {w : World} {p : Nat} {o : Obj} (h : w.heap[p]? = some o) : p < w.heap.size := blk_lt h
def Glob (w : World) : Prop := ∀ j, j < Lib.deBruijn64tab.length → w.cell? ⟨0, j, none⟩ = some (.int .u8 (Lib.deBruijn64tab.getD j 0))
theorem Glob.later {w w' : World} (h : Glob w) (hb : Below w.heap.size w w') : Glob w' := fun i hi => (hb.cell (World.block_lt_of_cell? w _ (h i hi))).trans (h i hi)
theorem tz_core (x k ix : Nat) (w : World) (hx0 : ((x : Int) == 0) = false)
    (key : IntKind.u64.wrap (bits BinOp.and IntKind.u64 (x : Int) (IntKind.u64.wrap (-(x : Int))) * 285870213051353865) / 288230376151711744 = (ix : Int))
    (hi : ix < 64) (hk : k < 64) (hcell : w.cell? ⟨0, ix, none⟩ = some (.int .u8 k)) :
    Calls Tryz.prog 95 #[.int .u64 x] w fun e w' => e = .returned (.int .i64 k) ∧ w' = w := by
  go_enter Tryz.func95, Tryz.ntmps95
  go_wp2_with (simp only [key])
  go_ret
  exact ⟨rfl, rfl⟩
theorem tz_zero (w : World) : Calls Tryz.prog 95 #[.int .u64 0] w fun e w' => e = .returned (.int .i64 64) ∧ w' = w := by
  go_enter Tryz.func95, Tryz.ntmps95
  go_wp2
  go_ret
  exact ⟨rfl, rfl⟩
theorem tz_ok (x : Nat) (hx : x < 18446744073709551616) (w : World) (hg : Glob w) : Calls Tryz.prog 95 #[.int .u64 x] w fun e w' => e = .returned (.int .i64 (Lib.ctz 64 x)) ∧ w' = w := by
  by_cases hx0 : x = 0
  · subst hx0
    exact tz_zero w
  · obtain ⟨hlow, hk⟩ := Lib.lowest_bit 64 x hx0 hx
    obtain ⟨hi, htab⟩ := Lib.deBruijn64_at _ hk
    have hcell := hg _ hi
    rw [htab] at hcell
    exact tz_core x _ _ w (by simp; omega) (tz64_key x _ hx hx0 hlow) hi hk hcell
theorem low_bits (c z j : Nat) : (2 ^ c * (2 * z + 1)).testBit c = true ∧ (j < c → (2 ^ c * (2 * z + 1)).testBit j = false) := by
  constructor
  · rw [Nat.mul_comm, Nat.testBit_mul_two_pow]
    simp
  · intro h
    rw [Nat.mul_comm, Nat.testBit_mul_two_pow]
    simp
    omega
/-- what is not of X stands as it stood -/
def Kept (X : Nat → Obj → Prop) (w w' : World) : Prop := ∀ k o, w.heap[k]? = some o → ¬ X k o → w'.heap[k]? = some o
theorem Kept.refl (X : Nat → Obj → Prop) (w : World) : Kept X w w := fun _ _ h _ => h
theorem Kept.trans {X : Nat → Obj → Prop} {a b c : World} (h : Kept X a b) (k : Kept X b c) : Kept X a c := fun i o hi hx => k i o (h i o hi hx) hx
theorem Kept.below {X : Nat → Obj → Prop} {w w' : World} (h : Below w.heap.size w w') : Kept X w w' := fun k o hk _ => (h.block k (heap_lt hk)).trans hk
/-- the lowest bit is the first number; without it the others are left -/
theorem bits_head {m : Nat} {l : List Int} (hm : m < 18446744073709551616) (h : Bits m 64 l) (hs : l.Pairwise (· < ·)) (h0 : m ≠ 0) :
    ∃ t, l = (Lib.ctz 64 m : Int) :: t ∧ Lib.ctz 64 m < 64 ∧ Bits (m &&& (18446744073709551615 - 2 ^ Lib.ctz 64 m)) 64 t ∧ m &&& (18446744073709551615 - 2 ^ Lib.ctz 64 m) < m := by
  obtain ⟨hlow, hk⟩ := Lib.lowest_bit 64 m h0 hm
  obtain ⟨z, hz, _⟩ := Lib.ctzFrom_spec 64 m (by omega) hm
  have ez : Lib.ctz 64 m = Lib.ctzFrom 64 m := by simp [Lib.ctz, h0]
  rw [← ez] at hz
  generalize Lib.ctz 64 m = c at *
  have hb1 : m.testBit c = true := by rw [hz]; exact (low_bits c z 0).1
  have hb2 : ∀ j, j < c → m.testBit j = false := fun j hj => by rw [hz]; exact (low_bits c z j).2 hj
  have hc : (c : Int) ∈ l := (h c).2 ⟨c, rfl, hk, hb1⟩
  have hcm : ∀ j, (18446744073709551615 - 2 ^ c).testBit j = (decide (j < 64) && !decide (c = j)) := fun j => by
    have hp : 2 ^ c < 2 ^ 64 := Nat.pow_lt_pow_right (by decide) hk
    have := Nat.testBit_two_pow_sub_succ (x := 2 ^ c) (n := 64) hp j
    rw [show (18446744073709551615 - 2 ^ c) = 2 ^ 64 - (2 ^ c + 1) by omega, this, Nat.testBit_two_pow]
  have hbit : ∀ j, (m &&& (18446744073709551615 - 2 ^ c)).testBit j = true ↔ m.testBit j = true ∧ j < 64 ∧ j ≠ c := fun j => by
    rw [Nat.testBit_and, hcm]
    simp
    intro _ _
    exact ⟨fun h e => h e.symm, fun h e => h e.symm⟩
  cases l with
  | nil => simp at hc
  | cons a t =>
    obtain ⟨h1, h2⟩ := List.pairwise_cons.1 hs
    obtain ⟨ja, rfl, hja, hta⟩ := (h a).1 (List.mem_cons_self ..)
    have hcj : c ≤ ja := by
      rcases Nat.lt_or_ge ja c with hlt | hge
      · rw [hb2 ja hlt] at hta; cases hta
      · exact hge
    have hca : (c : Int) = ja := by
      rcases List.mem_cons.1 hc with e | e
      · exact e
      · have := h1 _ e; omega
    have hcj' : c = ja := by omega
    subst hcj'
    refine ⟨t, rfl, hk, fun y => ?_, ?_⟩
    · constructor
      · intro hy
        obtain ⟨j, rfl, hj, htj⟩ := (h y).1 (List.mem_cons_of_mem _ hy)
        have := h1 _ hy
        exact ⟨j, rfl, hj, (hbit j).2 ⟨htj, hj, by omega⟩⟩
      · rintro ⟨j, rfl, hj, htj⟩
        obtain ⟨t1, t2, t3⟩ := (hbit j).1 htj
        rcases List.mem_cons.1 ((h j).2 ⟨j, rfl, hj, t1⟩) with e | e
        · exact absurd (by omega) t3
        · exact e
    · refine Nat.lt_of_le_of_ne Nat.and_le_left (fun e => ?_)
      have := (hbit c).1 (by rw [e]; exact hb1)
      exact this.2.2 rfl
theorem bits_nil {m : Nat} {l : List Int} (hm : m < 18446744073709551616) (h : Bits m 64 l) : (((m : Int) != 0) = true ↔ m ≠ 0) ∧ (m = 0 → l = []) := by
  refine ⟨by simp, ?_⟩
  rintro rfl
  cases l with
  | nil => rfl
  | cons a t =>
    obtain ⟨j, _, _, hj⟩ := (h a).1 (List.mem_cons_self ..)
    simp at hj
/-- what runs from number to number -/
structure Fold (g : FuncId) (fr : Array Value) (X : Nat → Obj → Prop) (B : Nat) (l : List Int) (Inv : Nat → World → Prop) : Prop where
  enter : ∀ args W, (callFunc g args).run Tryz.prog W = .ok (.enter g args) W
  own : ∀ k cs fz, ¬ X k (.cells cs 47 fz)
  stable : ∀ k W W', Inv k W → Below W.heap.size W W' → Inv k W'
  step : ∀ k (h : k < l.length) W, Inv k W → Calls Tryz.prog g (#[.int .i64 l[k]] ++ fr) W fun e W' => e = .returned (.tuple #[]) ∧ Inv (k + 1) W' ∧ Below B W W' ∧ Kept X W W'
theorem forEach_small (g : FuncId) (fr : Array Value) (X : Nat → Obj → Prop) (B : Nat) (l : List Int) (Inv : Nat → World → Prop) (F : Fold g fr X B l Inv) (m0 : Nat) (hm : m0 < 18446744073709551616) (hbm : Bits m0 64 l) (hs : l.Pairwise (· < ·)) (w : World) (hB : B ≤ w.heap.size) (hg : ∀ W, Below B w W → Glob W) (h0 : Inv 0 w) :
    Calls Tryz.prog 81 #[.agg #[.int .u64 m0, .pointer none], .func (.func g) #[] fr] w fun e w' => e = .returned (.tuple #[]) ∧ Inv l.length w' ∧ Below B w w' ∧ Kept X w w' := by
  have heg := F.enter
  have HF := Aside0.mk F
  have HG := Aside0.mk hg
  have HI := Aside0.mk (F.stable 0 w (w.alloc (.cells #[.int .u64 m0, .pointer none] 47)) h0 (below_alloc (Below.refl _ _) _))
  have HB := Aside0.mk (show Below B w (w.alloc (.cells #[.int .u64 m0, .pointer none] 47)) from (below_alloc (Below.refl w.heap.size w) _).mono hB)
  have HK := Aside0.mk (show Kept X w (w.alloc (.cells #[.int .u64 m0, .pointer none] 47)) from Kept.below (below_alloc (Below.refl w.heap.size w) _))
  have HBm := Aside0.mk hbm
  have HS := Aside0.mk hs
  have HM := Aside0.mk hm
  clear F hg h0 hbm hs hm
  go_enter Tryz.func81, Tryz.ntmps81
  go_wp2_with fail
  go_loopw [5] (fun t5 wr => ∃ (k m : Nat), t5 = .int .u64 m ∧ k ≤ l.length ∧ Aside0 (m < 18446744073709551616) ∧ Aside0 (Bits m 64 (l.drop k)) ∧ Aside0 ((l.drop k).Pairwise (· < ·)) ∧ Aside0 (Inv k wr) ∧ Aside0 (Below B w wr) ∧ Aside0 (Kept X w wr) ∧ wr.heap[w.heap.size]? = some (.cells #[.int .u64 m0, .pointer none] 47 (0, 0))) (fun t5 _ => (intOf t5).toNat)
  case atStart => exact ⟨0, m0, rfl, by omega, HM, HBm, HS, HI, HB, HK, heap_alloc_new _ _⟩
  case round =>
    clear HM HBm HS HI HB HK
    obtain ⟨k, m, rfl, hk, HM, HBm, HS, HI, HB, HK, hbox⟩ := hrel
    by_cases hm0 : m = 0
    · subst hm0
      have hn : l.drop k = [] := (bits_nil HM.out HBm.out).2 rfl
      obtain rfl : k = l.length := by
        have := congrArg List.length hn
        simp at this; omega
      go_wp2_with fail
      go_end0
      exact ⟨rfl, HI.out, HB.out, HK.out⟩
    · obtain ⟨t, e1, e2, e3, e4⟩ := bits_head HM.out HBm.out HS.out hm0
      have hk2 : k < l.length := by
        rcases Nat.lt_or_ge k l.length with h | h
        · exact h
        · rw [List.drop_eq_nil_of_le h] at e1; cases e1
      have hx : l[k] = ((Lib.ctz 64 m : Nat) : Int) := by
        rw [List.drop_eq_getElem_cons hk2] at e1
        exact (List.cons.inj e1).1
      have ht : l.drop (k + 1) = t := by
        rw [List.drop_eq_getElem_cons hk2] at e1
        exact (List.cons.inj e1).2
      have HTz := Aside0.mk (tz_ok m HM.out wr (HG.out wr HB.out))
      have HSt := Aside0.mk (HF.out.step k hk2 wr HI.out)
      rw [hx] at HSt
      have HE1 := Aside0.mk (show Bits _ 64 (l.drop (k + 1)) from ht ▸ e3)
      have HE2 := Aside0.mk (show (l.drop (k + 1)).Pairwise (· < ·) by rw [ht]; have h := HS.out; rw [e1] at h; exact (List.pairwise_cons.1 h).2)
      have HE3 := Aside0.mk e4
      have HM3 := Aside0.mk (show m &&& (18446744073709551615 - 2 ^ Lib.ctz 64 m) < 18446744073709551616 from Nat.lt_of_le_of_lt Nat.and_le_left HM.out)
      have hmI : ((m : Int) == 0) = false := by simp; omega
      generalize Lib.ctz 64 m = c at *
      have hp : 2 ^ c < 2 ^ 64 := Nat.pow_lt_pow_right (by decide) e2
      have HA := Aside0.mk (show bits .andNot .u64 (m : Int) (IntKind.u64.wrap (2 ^ c)) = ((m &&& (18446744073709551615 - 2 ^ c) : Nat) : Int) by
        have hw : IntKind.u64.wrap (2 ^ c) = ((2 ^ c : Nat) : Int) := by
          have h1 : ((2 : Int) ^ c) = ((2 ^ c : Nat) : Int) := by push_cast; rfl
          rw [h1]
          have hp2 : 2 ^ c < 18446744073709551616 := hp
          generalize 2 ^ c = P at hp2 ⊢
          show ((P : Int)) % 18446744073709551616 = _
          omega
        rw [hw]
        exact u64_andNot_nat m (2 ^ c) HM.out hp)
      clear hp
      generalize m &&& (18446744073709551615 - 2 ^ c) = m2 at *
      clear hx ht e1 e3 e4 HBm HS HI
      go_wp2_with (refine HTz.out.mono ?_; rintro e w2 ⟨rfl, w3⟩; subst w3)
      refine HSt.out.mono ?_
      rintro e w4 ⟨rfl, hi4, hb4, hk4⟩
      have HI4 := Aside0.mk hi4
      have HB4 := Aside0.mk (HB.out.trans hb4)
      have HK4 := Aside0.mk (HK.out.trans hk4)
      have hbox4 := hk4 _ _ hbox (HF.out.own _ _ _)
      clear hi4 hb4 hk4 hbox HSt HTz HB HK
      go_wp2_with fail
      go_roundw
      case rel => exact ⟨k + 1, m2, by rw [HA.out], by omega, HM3, HE1, HE2, HI4, HB4, HK4, hbox4⟩
      case measure => rw [HA.out]; have := HE3.out; simp [intOf]; omega
/-- what is not of S stands as it stood -/
structure Still (S : Nat → Prop) (w w' : World) : Prop where
  os : w'.os = w.os
  tape : w'.tape = w.tape
  output : w'.output = w.output
  size : w.heap.size ≤ w'.heap.size
  block : ∀ k, k < w.heap.size → ¬ S k → w'.heap[k]? = w.heap[k]?
theorem Still.refl (S : Nat → Prop) (w : World) : Still S w w := ⟨rfl, rfl, rfl, Nat.le_refl _, fun _ _ _ => rfl⟩
theorem Still.trans {S : Nat → Prop} {a b c : World} (h : Still S a b) (k : Still S b c) : Still S a c :=
  ⟨k.os.trans h.os, k.tape.trans h.tape, k.output.trans h.output, Nat.le_trans h.size k.size, fun i hi hs => (k.block i (Nat.lt_of_lt_of_le hi h.size) hs).trans (h.block i hi hs)⟩
theorem Still.of_below {S : Nat → Prop} {w w' : World} (h : Below w.heap.size w w') : Still S w w' := ⟨h.os, h.tape, h.output, h.size, fun k hk _ => h.block k hk⟩
theorem Still.drew {S : Nat → Prop} {a w : World} (h : Still S a w) : Still S a w.drew := ⟨h.os, h.tape, h.output, h.size, h.block⟩
theorem Still.alloc {S : Nat → Prop} {a w : World} (h : Still S a w) (o : Obj) : Still S a (w.alloc o) := h.trans (.of_below (below_alloc (Below.refl _ _) o))
theorem Still.setCell {S : Nat → Prop} {a w : World} (h : Still S a w) {p : Addr} (hp : S p.block ∨ a.heap.size ≤ p.block) (u : Value) : Still S a (w.setCell p u) :=
  ⟨h.os, h.tape, h.output, by simpa [World.setCell] using h.size, fun k hk hs => (Below.heap_setCell _ _ _ _ (by rintro rfl; rcases hp with hp | hp; exact hs hp; omega)).trans (h.block k hk hs)⟩
theorem Still.mono {S S' : Nat → Prop} {w w' : World} (h : Still S w w') (hs : ∀ k, S k → S' k) : Still S' w w' := ⟨h.os, h.tape, h.output, h.size, fun k hk hn => h.block k hk (fun hh => hn (hs k hh))⟩
theorem Still.below {S : Nat → Prop} {w w' : World} {B : Nat} (h : Still S w w') (hB : B ≤ w.heap.size) (hs : ∀ k, S k → B ≤ k) : Below B w w' :=
  ⟨h.os, h.tape, h.output, h.size, fun k hk => h.block k (by omega) (fun hh => by have := hs k hh; omega)⟩

theorem heap_set_at {w : World} {p t : Nat} {cs : Array Value} {f : Nat × Nat} (h : w.heap[p]? = some (.cells cs t f)) (o : Nat) (v : Value) : (w.setCell ⟨p, o, none⟩ v).heap[p]? = some (.cells (cs.setIfInBounds o v) t f) := by
  rw [show (w.setCell ⟨p, o, none⟩ v).heap[p]? = (w.heap.modify p (fun ob => match ob with | .cells c t f => .cells (c.setIfInBounds o v) t f | ob => ob))[p]? from rfl, Array.getElem?_modify, if_pos rfl, h]
  rfl
/-- a small set by value -/
abbrev cv (m : Nat) : Value := .agg #[.int .u64 (m : Int), .pointer none]
abbrev big : Nat := 18446744073709551616
theorem or_lt {a b : Nat} (ha : a < big) (hb : b < big) : a ||| b < big := Nat.or_lt_two_pow (n := 64) ha hb
theorem two_lt {k : Nat} (hk : k < 64) : 2 ^ k < big := Nat.pow_lt_pow_right (by decide) hk
theorem wrap_two {k : Nat} (hk : k < 64) : IntKind.u64.wrap (2 ^ k) = ((2 ^ k : Nat) : Int) := by
  have h2 := two_lt hk
  have e : (2 : Int) ^ k = ((2 ^ k : Nat) : Int) := by push_cast; rfl
  rw [e]
  generalize 2 ^ k = z at h2 ⊢
  rw [IntKind.wrap_u64]
  unfold big at h2
  exact Int.emod_eq_of_lt (by omega) (by omega)
/-- a set at an address: its two cells -/
structure At (w : World) (p : Nat) (m : Nat) : Prop where
  lt : p < w.heap.size
  c0 : w.cell? ⟨p, 0, none⟩ = some (.int .u64 (m : Int))
  c1 : w.cell? ⟨p, 1, none⟩ = some (.pointer none)
  z0 : w.frozen? ⟨p, 0, none⟩ = false
theorem At.of {w : World} {p m t : Nat} (h : w.heap[p]? = some (.cells #[.int .u64 (m : Int), .pointer none] t (0, 0))) : At w p m :=
  ⟨blk_lt h, by rw [Lib.cell_of_heap h]; rfl, by rw [Lib.cell_of_heap h]; rfl, Lib.frozen_of_heap h _⟩
theorem At.drew {w : World} {p m : Nat} (h : At w p m) : At w.drew p m := ⟨h.1, h.2, h.3, h.4⟩
theorem At.drewN {w : World} {p m : Nat} (h : At w p m) (n : Nat) : At (w.drewN n) p m := ⟨by simpa using h.1, by simpa [go_sem] using h.2, by simpa [go_sem] using h.3, by simpa [go_sem] using h.4⟩
theorem fs_add (p k m : Nat) (w : World) (hA : At w p m) (hk : k < 64) (hm : m < big) :
    Calls Tryz.prog 42 #[.pointer (some ⟨p, 0, none⟩), .int .i64 (k : Int)] w fun e w' => e = .returned (.tuple #[]) ∧ w' = w.setCell ⟨p, 0, none⟩ (.int .u64 ((m ||| 2 ^ k : Nat) : Int)) := by
  obtain ⟨hp, h0, h1, z0⟩ := hA
  have hor : bits BinOp.or IntKind.u64 (m : Int) (IntKind.u64.wrap (2 ^ k)) = ((m ||| 2 ^ k : Nat) : Int) := by
    rw [wrap_two hk]
    exact u64_or_nat m _ hm (two_lt hk)
  generalize m ||| 2 ^ k = m2 at *
  clear hm
  go_enter Tryz.func42, Tryz.ntmps42
  go_wp2
  refine bodyPost_ret (results_none Tryz.results42 _ _ _) rfl ?_
  exact ⟨rfl, rfl⟩
theorem setVal_ok (k : Nat) (hk : k < 64) (w : World) : Calls Tryz.prog 43 #[.int .u16 ((k : Int) + 1)] w fun e w' => e = .returned (.int .i64 (k : Int)) ∧ w' = w := by
  go_enter Tryz.func43, Tryz.ntmps43
  go_wp2
  go_ret
  exact ⟨by simp, rfl⟩
theorem retVal_ok (k : Nat) (hk : k < 64) (w : World) : Calls Tryz.prog 77 #[.int .i64 (k : Int)] w fun e w' => e = .returned (.int .u16 ((k : Int) + 1)) ∧ w' = w := by
  go_enter Tryz.func77, Tryz.ntmps77
  go_wp2
  go_ret
  exact ⟨by simp, rfl⟩
theorem cs_add (p k m : Nat) (w : World) (hA : At w p m) (hk : k < 64) (hm : m < big) :
    Calls Tryz.prog 17 #[.pointer (some ⟨p, 0, none⟩), .int .u16 ((k : Int) + 1)] w fun e w' => e = .returned (.tuple #[]) ∧ w' = (w.setCell ⟨p, 0, none⟩ (.int .u64 ((m ||| 2 ^ k : Nat) : Int))).drew := by
  have HA := Aside0.mk (fun W hW => fs_add p k m W hW hk hm)
  have HW := Aside0.mk hA
  have hp := hA.1
  generalize m ||| 2 ^ k = m2 at *
  clear hm hA
  go_enter Tryz.func17, Tryz.ntmps17
  go_region_with (first | (go_at_call 43; refine (setVal_ok k hk _).mono ?_; rintro e w2 ⟨rfl, hw⟩; subst w2) | (go_at_call 42; refine (HA.out _ (by first | exact HW.out | exact HW.out.drew | exact HW.out.drewN _)).mono ?_; rintro e w2 ⟨rfl, rfl⟩))
  all_goals go_end0
  all_goals exact ⟨rfl, rfl⟩
theorem alloc_old {w : World} {p : Nat} {o : Obj} (h : w.heap[p]? = some o) (o' : Obj) : (w.alloc o').heap[p]? = some o := ((below_alloc (Below.refl _ w) o').block p (blk_lt h)).trans h
theorem alloc_at {w : World} {p : Nat} (o : Obj) (h : p = w.heap.size) : (w.alloc o).heap[p]? = some o := h ▸ heap_alloc_new _ _
/-- the mask of some columns -/
def mk (l : List Int) : Nat := l.foldl (fun m x => m ||| 2 ^ (x - 1).toNat) 0
theorem mk_take (l : List Int) (k : Nat) (h : k < l.length) : mk (l.take (k + 1)) = mk (l.take k) ||| 2 ^ (l[k] - 1).toNat := by
  unfold mk
  rw [List.take_succ_eq_append_getElem h, List.foldl_append]
  rfl
theorem mk_lt : ∀ (l : List Int) (m : Nat), m < big → (∀ x ∈ l, 1 ≤ x ∧ x ≤ 64) → l.foldl (fun m x => m ||| 2 ^ (x - 1).toNat) m < big
  | [], m, h, _ => h
  | z :: t, m, h, hb => mk_lt t _ (or_lt h (two_lt (by have := hb z (List.mem_cons_self ..); omega))) (fun x hx => hb x (List.mem_cons_of_mem _ hx))
theorem mk_big (l : List Int) (hb : ∀ x ∈ l, 1 ≤ x ∧ x ≤ 64) : mk l < big := mk_lt l 0 (by decide) hb
theorem columns_ok (A : Option Addr) (c : Nat) (l : List Int) (w : World) (hC : Kd.C (Kd.int .i64) w A l.length l) (hb : ∀ x ∈ l, 1 ≤ x ∧ x ≤ 64) (hl : l.length ≤ 1000) :
    Calls Tryz.prog 13 #[.slice A l.length c] w fun e w' => e = .returned (cv (mk l)) ∧ Below w.heap.size w w' := by
  have HC := Aside0.mk hC
  have HR := Aside0.mk hb
  have HL := Aside0.mk hl
  have HB0 := Aside0.mk (below_then (below_alloc (Below.refl w.heap.size w) (.cells #[.int .u64 0, .pointer none] 49)) (by simp) (below_alloc (Below.refl _ (w.alloc (.cells #[.int .u64 0, .pointer none] 49))) (.cells #[.int .u64 0, .pointer none] 49)))
  clear hC hb
  go_enter Tryz.func13, Tryz.ntmps13
  go_wp2
  go_loopw [8] (fun t8 wr => ∃ k : Nat, t8 = .int .i64 (k : Int) ∧ k ≤ l.length ∧ wr.heap[w.heap.size]? = some (.cells #[.int .u64 0, .pointer none] 49 (0, 0)) ∧ wr.heap[w.heap.size + 1]? = some (.cells #[.int .u64 (mk (l.take k) : Int), .pointer none] 49 (0, 0)) ∧ Aside0 (Below w.heap.size w wr)) (fun t8 _ => l.length - (intOf t8).toNat)
  case atStart => exact ⟨0, rfl, Nat.zero_le _, alloc_old (heap_alloc_new _ _) _, alloc_at _ (by simp), HB0⟩
  case round =>
    clear HB0
    obtain ⟨k, rfl, hk, hb0, hb1, HB⟩ := hrel
    rcases Nat.lt_or_ge k l.length with hlt | hge
    · obtain ⟨ad, e, hx⟩ := Kd.at_int (Kd.C_below HC.out HB.out) (k : Int) (by omega) (by omega)
      subst e
      rw [Int.toNat_natCast] at hx
      have hget : rd l (k : Int) = l[k] := by unfold rd; rw [Int.toNat_natCast, List.getD_eq_getElem?_getD, List.getElem?_eq_getElem hlt]; rfl
      rw [hget] at hx
      have hr := HR.out _ (List.getElem_mem hlt)
      obtain ⟨j, hj⟩ : ∃ j : Nat, l[k] = (j : Int) + 1 := ⟨(l[k] - 1).toNat, by omega⟩
      have hmk := mk_take l k hlt
      rw [hj, show ((j : Int) + 1 - 1).toNat = j by omega] at hmk
      rw [hj] at hx hr
      have HM := Aside0.mk hmk
      have hA := At.of hb1
      have HA := Aside0.mk (cs_add (w.heap.size + 1) j _ wr hA (by omega) (mk_big _ (fun x hx => HR.out x (List.mem_of_mem_take hx))))
      rw [← hmk] at HA
      generalize hm2 : mk (l.take (k + 1)) = m2 at *
      have HM2 := Aside0.mk hm2
      clear hm2
      generalize mk (l.take k) = m1 at *
      have HB2 := Aside0.mk (below_drew (HB.out.setCell (p := ⟨w.heap.size + 1, 0, none⟩) (by simp) (.int .u64 (m2 : Int))))
      have hb02 : (wr.setCell ⟨w.heap.size + 1, 0, none⟩ (.int .u64 (m2 : Int))).drew.heap[w.heap.size]? = some (.cells #[.int .u64 0, .pointer none] 49 (0, 0)) := (Below.heap_setCell _ _ _ _ (by simp)).trans hb0
      have hb12 : (wr.setCell ⟨w.heap.size + 1, 0, none⟩ (.int .u64 (m2 : Int))).drew.heap[w.heap.size + 1]? = some (.cells #[.int .u64 (m2 : Int), .pointer none] 49 (0, 0)) := by
        show (wr.heap.modify _ _)[w.heap.size + 1]? = _
        rw [Array.getElem?_modify, if_pos rfl, hb1]
        rfl
      have H02 := Aside0.mk hb02
      have H12 := Aside0.mk hb12
      clear hb02 hb12 hb0 hb1 hA hmk hget hj HB
      go_wp2_with fail
      refine HA.out.mono ?_
      rintro e w3 ⟨rfl, rfl⟩
      go_wp2_with fail
      go_roundw
      case rel => exact ⟨k + 1, by go_num, by omega, H02.out, by rw [HM2.out]; exact H12.out, HB2⟩
      case measure => simp [intOf]; omega
    · obtain rfl : k = l.length := by omega
      rw [List.take_length] at hb1
      have c0 : wr.cell? ⟨w.heap.size, 0, none⟩ = some (.int .u64 0) := by rw [Lib.cell_of_heap hb0]; rfl
      have c1 : wr.cell? ⟨w.heap.size, 1, none⟩ = some (.pointer none) := by rw [Lib.cell_of_heap hb0]; rfl
      have d0 : wr.cell? ⟨w.heap.size + 1, 0, none⟩ = some (.int .u64 (mk l : Int)) := by rw [Lib.cell_of_heap hb1]; rfl
      have d1 : wr.cell? ⟨w.heap.size + 1, 1, none⟩ = some (.pointer none) := by rw [Lib.cell_of_heap hb1]; rfl
      have z0 : wr.frozen? ⟨w.heap.size, 0, none⟩ = false := Lib.frozen_of_heap hb0 _
      have z1 : wr.frozen? ⟨w.heap.size, 1, none⟩ = false := Lib.frozen_of_heap hb0 _
      have hlt := blk_lt hb0
      clear hb0 hb1
      have HBf := Aside0.mk ((HB.out.setCell (p := ⟨w.heap.size, 0, none⟩) (Nat.le_refl _) (.int .u64 (mk l : Int))).setCell (p := ⟨w.heap.size, 1, none⟩) (Nat.le_refl _) (.pointer none))
      go_wp2_with fail
      refine bodyPost_ret (v := cv (mk l)) (by simp [results, Tryz.results13, go_sem, hlt, c0, c1]) rfl ⟨rfl, ?_⟩
      exact HBf.out
/-- a variable that holds a row of numbers of the call's own -/
def RowVar (W : World) (r base : Nat) (xs : List Int) : Prop := ∃ v, W.heap[r]? = some (.cells #[v] 22 (0, 0)) ∧ Kd.R (Kd.int .i64) 3 W base (fun _ => True) v xs ∧ r < base ∧ base ≤ W.heap.size
theorem ids1_ok (r base : Nat) (xs : List Int) (x : Nat) (hx : x < 65536) (W : World) (h : RowVar W r base xs) (hl : xs.length ≤ 1000) :
    Calls Tryz.prog 63 #[.int .u16 (x : Int), .pointer (some ⟨r, 0, none⟩)] W fun e W' => e = .returned (.tuple #[]) ∧ RowVar W' r base (xs ++ [(x : Int)]) ∧ Still (fun k => k = r ∨ base ≤ k ∧ ∃ cs, W.heap[k]? = some (.cells cs 3 (0, 0))) W W' := by
  obtain ⟨v, h0, hR, hr, hb⟩ := h
  obtain ⟨A, c, rfl⟩ := Kd.R_slice hR
  have c0 : W.cell? ⟨r, 0, none⟩ = some (.slice A xs.length c) := by rw [Lib.cell_of_heap h0]; rfl
  have z0 : W.frozen? ⟨r, 0, none⟩ = false := Lib.frozen_of_heap h0 _
  have HR := Aside0.mk hR
  have HH := Aside0.mk h0
  have hrW : r < W.heap.size := by omega
  have hrW' : ¬ r = W.heap.size := by omega
  clear hR h0
  go_enter Tryz.func63, Tryz.ntmps63
  go_wp2_with ((with_reducible refine gate_builtin (b := .append) (xs := #[.tmp 3, .tmp 6]) rfl ?_); at_builtin; go_loud (refine Kd.R_append (Kd.int .i64) (w0 := W) (W := W) base rfl (.tmp 3) (.tmp 6) 22 3 (.int .i64 0) 8 rfl Tryz.underlying22 infoI64 rfl (by decide) (by decide) (.slice A xs.length c) xs (x : Int) [.int .i64 (x : Int)] (fun _ => True) (fun _ => False) rfl rfl rfl (fun _ hk => hk.elim) (fun _ _ => trivial) HR.out (Below.refl _ _) hb (by omega) ?_; intro v1 w1 ho hb1 hg1 hat; clear hat; obtain ⟨A1, c1, rfl⟩ := Kd.R_slice ho; rw [List.length_append, List.length_singleton] at ho; have HO := Aside0.mk ho; have HB := Aside0.mk hb1; have HG := Aside0.mk hg1; have k1 := (hb1.cell (p := ⟨r, 0, none⟩) hr).trans c0; have z1 := (hb1.frozen (p := ⟨r, 0, none⟩) hr).trans z0; clear ho hb1 hg1))
  go_end0
  have hne : ∀ k, k ≠ r → ∀ v, (w1.setCell ⟨r, 0, none⟩ v).heap[k]? = w1.heap[k]? := fun k hk v => Below.heap_setCell _ _ _ _ hk
  refine ⟨rfl, ⟨_, heap_set_at ((HB.out.block r hr).trans HH.out) 0 _, Kd.R_mono (Kd.R_far (p := ⟨r, 0, none⟩) (Kd.R_bound HO.out) (fun k hk => by have := hk.2.1; show k ≠ r; omega) _) (fun _ _ => trivial), hr, ?_⟩, ?_⟩
  · have := HB.out.size
    simp [World.setCell]
    omega
  · have hS : Still (fun k => k = r ∨ base ≤ k ∧ ∃ cs, W.heap[k]? = some (.cells cs 3 (0, 0))) W w1 := by
      refine ⟨HB.out.os, HB.out.tape, HB.out.output, HB.out.size, fun k hk hs => ?_⟩
      refine HG.out.block k hk (fun e => hs (.inr ?_))
      obtain ⟨cs, hc⟩ := Kd.R_typed HR.out k e.symm
      exact ⟨Kd.R_base HR.out k e.symm, cs, hc⟩
    exact hS.setCell (p := ⟨r, 0, none⟩) (.inl (.inl rfl)) _
/-- the numbers of a mask, rising from 0 -/
def bitsL (m : Nat) : List Int := ((List.range 64).filter (fun j => m.testBit j)).map (fun j : Nat => (j : Int))
theorem bitsL_bits (m : Nat) : Bits m 64 (bitsL m) := fun y => by
  unfold bitsL
  simp only [List.mem_map, List.mem_filter, List.mem_range]
  constructor
  · rintro ⟨j, ⟨h1, h2⟩, rfl⟩
    exact ⟨j, rfl, h1, h2⟩
  · rintro ⟨j, rfl, h1, h2⟩
    exact ⟨j, ⟨h1, h2⟩, rfl⟩
theorem bitsL_sorted (m : Nat) : (bitsL m).Pairwise (· < ·) := by
  unfold bitsL
  rw [List.pairwise_map]
  exact (List.pairwise_lt_range.sublist List.filter_sublist).imp (fun h => by omega)
theorem bitsL_len (m : Nat) : (bitsL m).length ≤ 64 := by
  unfold bitsL
  rw [List.length_map]
  have := List.length_filter_le (fun j => m.testBit j) (List.range 64)
  simpa using this
/-- the columns of a mask, rising from 1 -/
def colsOf (m : Nat) : List Int := (bitsL m).map (· + 1)
def XI (k : Nat) (o : Obj) : Prop := ∃ cs t fz, o = .cells cs t fz ∧ (t = 22 ∨ t = 3)
structure Inv (l : List Int) (q r base : Nat) (k : Nat) (W : World) : Prop where
  box : W.heap[q]? = some (.cells #[.func (.func 63) #[] #[.pointer (some ⟨r, 0, none⟩)]] 61 (0, 0))
  row : RowVar W r base ((l.take k).map (· + 1))
  qb : q < W.heap.size
theorem RowVar.later {W W' : World} {r base : Nat} {xs : List Int} (h : RowVar W r base xs) (hb : Below W.heap.size W W') : RowVar W' r base xs := by
  obtain ⟨v, h1, h2, h3, h4⟩ := h
  exact ⟨v, (hb.block r (blk_lt h1)).trans h1, Kd.R_below h2 hb, h3, Nat.le_trans h4 hb.size⟩
theorem each1_ok (q r base B : Nat) (l : List Int) (k : Nat) (hk : k < l.length) (hl : l.length ≤ 64) (hx : 0 ≤ l[k] ∧ l[k] < 64) (hB : B ≤ r) (W : World) (hI : Inv l q r base k W) :
    Calls Tryz.prog 82 (#[.int .i64 l[k]] ++ #[.pointer (some ⟨q, 0, none⟩)]) W fun e W' => e = .returned (.tuple #[]) ∧ Inv l q r base (k + 1) W' ∧ Below B W W' ∧ Kept XI W W' := by
  obtain ⟨hbx, hrow, hqb⟩ := hI
  obtain ⟨j, hj⟩ : ∃ j : Nat, l[k] = (j : Int) := ⟨l[k].toNat, by omega⟩
  have htk : (l.take (k + 1)).map (· + 1) = (l.take k).map (· + 1) ++ [((j + 1 : Nat) : Int)] := by
    rw [List.take_succ_eq_append_getElem hk, List.map_append, hj]
    rfl
  have H1 := Aside0.mk (fun W h => ids1_ok r base ((l.take k).map (· + 1)) (j + 1) (by omega) W h (by rw [List.length_map, List.length_take]; omega))
  rw [← htk] at H1
  have HR := Aside0.mk (fun W => retVal_ok j (by omega) W)
  have c0 : W.cell? ⟨q, 0, none⟩ = some (.func (.func 63) #[] #[.pointer (some ⟨r, 0, none⟩)]) := by rw [Lib.cell_of_heap hbx]; rfl
  have HX := Aside0.mk hbx
  have hr2 := hrow
  rw [hj]
  clear hbx htk
  show Calls Tryz.prog 82 #[.int .i64 (j : Int), .pointer (some ⟨q, 0, none⟩)] W _
  go_enter Tryz.func82, Tryz.ntmps82
  go_region_with (first | (go_at_call 77; refine (HR.out _).mono ?_; rintro e w2 ⟨rfl, hw⟩; subst w2) | (go_at_call 63; go_loud (refine (H1.out _ (by first | exact hr2 | exact hr2.later (below_drew (Below.refl _ _)))).mono ?_; rintro e w3 ⟨rfl, hrow3, hst⟩)))
  all_goals go_end0
  all_goals
    obtain ⟨v1, hv1, _, hrb, hbW⟩ := hr2
    have hqr : q ≠ r := by
      rintro rfl
      have h := HX.out.symm.trans hv1
      cases h
    refine ⟨rfl, ⟨(hst.block q hqb (by
      rintro (h | ⟨_, cs, hc⟩)
      · exact hqr h
      · have h := HX.out.symm.trans hc
        cases h)).trans HX.out, hrow3, Nat.lt_of_lt_of_le hqb hst.size⟩, ?_, ?_⟩
    · exact ⟨hst.os, hst.tape, hst.output, hst.size, fun z hz => hst.block z (show z < W.heap.size by omega) (by rintro (h | ⟨h, _⟩) <;> omega)⟩
    · intro z o hz hn
      refine (hst.block z (blk_lt hz) ?_).trans hz
      rintro (rfl | ⟨_, cs, hc⟩)
      · exact hn ⟨_, _, _, Option.some.inj (hz.symm.trans hv1), .inl rfl⟩
      · exact hn ⟨_, _, _, Option.some.inj (hz.symm.trans hc), .inr rfl⟩
theorem fold_ids (q r base B : Nat) (l : List Int) (hl : l.length ≤ 64) (hx : ∀ x ∈ l, 0 ≤ x ∧ x < 64) (hB : B ≤ r) :
    Fold 82 #[.pointer (some ⟨q, 0, none⟩)] XI B l (Inv l q r base) where
  enter := fun args W => enters_ Tryz.func82 (by kernel_rfl) rfl args W
  own := fun k cs fz h => by
    obtain ⟨c, t, f, e, h1⟩ := h
    cases e
    revert h1; decide
  stable := fun k W W' h hb => ⟨(hb.block _ h.qb).trans h.box, h.row.later hb, Nat.lt_of_lt_of_le h.qb hb.size⟩
  step := fun k h W hI => each1_ok q r base B l k h hl (hx _ (List.getElem_mem h)) hB W hI
theorem bitsL_mem (m : Nat) : ∀ x ∈ bitsL m, 0 ≤ x ∧ x < 64 := fun x hx => by
  obtain ⟨j, rfl, h, _⟩ := (bitsL_bits m x).1 hx
  omega
theorem csEach_ok (m r base : Nat) (hr0 : 0 < r) (hm : m < big) (w : World) (hg : Glob w) (hrow : RowVar w r base []) :
    Calls Tryz.prog 62 #[cv m, .func (.func 63) #[] #[.pointer (some ⟨r, 0, none⟩)]] w fun e w' => e = .returned (.tuple #[]) ∧ RowVar w' r base (colsOf m) ∧ Below r w w' ∧ Kept XI w w' := by
  have hrb : r < w.heap.size := by obtain ⟨v, h1, _⟩ := hrow; exact blk_lt h1
  have hW : ∀ W : World, W = (w.alloc (.cells #[.int .u64 (m : Int), .pointer none] 49)).alloc (.cells #[.func (.func 63) #[] #[.pointer (some ⟨r, 0, none⟩)]] 61) → Below w.heap.size w W ∧ Inv (bitsL m) (w.heap.size + 1) r base 0 W := fun W e => by
    subst e
    have hb := below_alloc (below_alloc (Below.refl w.heap.size w) (.cells #[.int .u64 (m : Int), .pointer none] 49)) (.cells #[.func (.func 63) #[] #[.pointer (some ⟨r, 0, none⟩)]] 61)
    exact ⟨hb, alloc_at _ (by simp), hrow.later hb, by simp⟩
  have HW := Aside0.mk (hW _ rfl)
  have HF := Aside0.mk (fun W (hb : Below w.heap.size w W) (hi : Inv (bitsL m) (w.heap.size + 1) r base 0 W) => forEach_small 82 #[.pointer (some ⟨w.heap.size + 1, 0, none⟩)] XI r (bitsL m) _ (fold_ids (w.heap.size + 1) r base r (bitsL m) (bitsL_len m) (bitsL_mem m) (Nat.le_refl _)) m hm (bitsL_bits m) (bitsL_sorted m) W (by have := hb.size; omega) (fun W2 h2 i hi => (h2.cell (p := ⟨0, i, none⟩) hr0).trans (hg.later hb i hi)) hi)
  clear hg hrow hW hm
  go_enter Tryz.func62, Tryz.ntmps62
  go_wp2_with fail
  refine (HF.out _ HW.out.1 HW.out.2).mono ?_
  rintro e w2 ⟨rfl, hi, hb, hk⟩
  go_wp2_with fail
  go_end0
  have hr := hi.row
  rw [List.take_length] at hr
  exact ⟨rfl, hr, (HW.out.1.mono (by omega)).trans hb, (Kept.below HW.out.1).trans hk⟩
theorem ids_ok (m : Nat) (hm : m < big) (w : World) (hg : Glob w) :
    Calls Tryz.prog 29 #[cv m] w fun e w' => ∃ v, e = .returned v ∧ Kd.R (Kd.int .i64) 3 w' w.heap.size (fun _ => True) v (colsOf m) ∧ Below w.heap.size w w' := by
  have hW : ∀ W : World, W = (w.alloc (.cells #[.int .u64 (m : Int), .pointer none] 49)).alloc (.cells #[.slice none 0 0] 22) → Below w.heap.size w W ∧ RowVar W (w.heap.size + 1) (w.heap.size + 1 + 1) [] := fun W e => by
    subst e
    exact ⟨below_alloc (below_alloc (Below.refl _ _) _) _, _, alloc_at _ (by simp), Kd.R_nil _ _ _ _ _, by omega, by simp⟩
  have HW := Aside0.mk (hW _ rfl)
  have HE := Aside0.mk (fun W (hb : Below w.heap.size w W) hr => csEach_ok m (w.heap.size + 1) (w.heap.size + 1 + 1) (by omega) hm W (hg.later hb) hr)
  clear hg hm hW
  go_enter Tryz.func29, Tryz.ntmps29
  go_wp2_with fail
  refine (HE.out _ HW.out.1 HW.out.2).mono ?_
  rintro e w2 ⟨rfl, ⟨v, hv, hR, _, hsz⟩, hb, hk⟩
  have c0 : w2.cell? ⟨w.heap.size + 1, 0, none⟩ = some v := by rw [Lib.cell_of_heap hv]; rfl
  have HR := Aside0.mk hR
  have HB := Aside0.mk (HW.out.1.trans (hb.mono (by omega)))
  obtain ⟨A, c, rfl⟩ := Kd.R_slice hR
  clear hR hv hk hb
  go_wp2_with fail
  go_ret
  exact ⟨_, rfl, Kd.R_lower HR.out (by omega), HB.out⟩
end Go.Proofs.YtoeapddecmhlkaaGreatDoor.FD
