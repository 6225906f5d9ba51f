/-
  Contracts of FastIntSet.Add and of NewFastIntSet. Condition: numbers from 0 to 1000, at most 200; math/bits.deBruijn64tab as laid.
-/
import Derived.Test.YtlghbhkpdlkhjaaDoorISe
import Derived.Lib.EndianBits
namespace Go.Proofs.YtlghbhkpdlkhjaaDoor.PIS
open Go.RowKit Go.Proofs.YtlghbhkpdlkhjaaDoorW.PrintWords Go.Proofs.YtlghbhkpdlkhjaaDoorW.PrintLast Go.Proofs.YtlghbhkpdlkhjaaDoorW.PrintMore
set_option linter.unusedVariables false
set_option linter.unusedSimpArgs false
set_option maxRecDepth 100000
set_option maxHeartbeats 400000

theorem sorted_ext : ∀ (a b : List Int), a.Pairwise (· < ·) → b.Pairwise (· < ·) → (∀ y, y ∈ a ↔ y ∈ b) → a = b
  | [], [], _, _, _ => rfl
  | [], z :: t, _, _, h => by have := (h z).2 List.mem_cons_self; simp at this
  | z :: t, [], _, _, h => by have := (h z).1 List.mem_cons_self; simp at this
  | x :: s, y :: t, ha, hb, h => by
    obtain ⟨a1, a2⟩ := List.pairwise_cons.1 ha
    obtain ⟨b1, b2⟩ := List.pairwise_cons.1 hb
    have hxy : x = y := by
      rcases List.mem_cons.1 ((h x).1 List.mem_cons_self) with e | e
      · exact e
      · rcases List.mem_cons.1 ((h y).2 List.mem_cons_self) with e2 | e2
        · exact e2.symm
        · have := b1 x e; have := a1 y e2; omega
    subst hxy
    rw [sorted_ext s t a2 b2 (fun z => ?_)]
    constructor
    · intro hz
      rcases List.mem_cons.1 ((h z).1 (List.mem_cons_of_mem _ hz)) with e | e
      · have := a1 z hz; omega
      · exact e
    · intro hz
      rcases List.mem_cons.1 ((h z).2 (List.mem_cons_of_mem _ hz)) with e | e
      · have := b1 z hz; omega
      · exact e
def FsAt (w : World) (p : Nat) (l : List Int) : Prop := l.Pairwise (· < ·) ∧
  ((∃ m : Nat, m < 18446744073709551616 ∧ w.heap[p]? = some (.cells #[.int .u64 m, .pointer none] 46 (0, 0)) ∧ Bits m 64 l) ∨
   (∃ q, p < q ∧ w.heap[p]? = some (.cells #[.int .u64 0, .pointer (some ⟨q, 0, none⟩)] 46 (0, 0)) ∧ SpAt w q l))
theorem heap_lt {w : World} {p : Nat} {o : Obj} (h : w.heap[p]? = some o) : p < w.heap.size := by
  rcases Nat.lt_or_ge p w.heap.size with h1 | h1
  · exact h1
  · rw [Array.getElem?_eq_none h1] at h; cases h
theorem bits_put (m i : Nat) (l : List Int) (hm : m < 18446744073709551616) (hi : i < 64) (h : Bits m 64 l) (hs : l.Pairwise (· < ·)) : m ||| 2 ^ i < 18446744073709551616 ∧ Bits (m ||| 2 ^ i) 64 (put (i : Int) l) := by
  have h2 : 2 ^ i < 18446744073709551616 := Nat.pow_lt_pow_right (by decide) hi
  refine ⟨Nat.or_lt_two_pow (n := 64) hm h2, fun y => ?_⟩
  rw [(put_spec (i : Int) l hs).2.1 y, h y]
  constructor
  · rintro (rfl | ⟨j, h1, h3, h4⟩)
    · exact ⟨i, rfl, hi, by rw [Nat.testBit_or, Nat.testBit_two_pow_self, Bool.or_true]⟩
    · exact ⟨j, h1, h3, by rw [Nat.testBit_or, h4, Bool.true_or]⟩
  · rintro ⟨j, h1, h3, h4⟩
    rw [Nat.testBit_or, Bool.or_eq_true] at h4
    rcases h4 with h4 | h4
    · exact .inr ⟨j, h1, h3, h4⟩
    · rw [Nat.testBit_two_pow, decide_eq_true_eq] at h4
      subst h4
      exact .inl h1
/-- A store into a struct's block leaves a set elsewhere as it was. -/
theorem SpAt.far {w : World} {q p : Nat} {l : List Int} {cs : Array Value} {t : TypeId} {fr : Nat × Nat} (h : SpAt w q l) (hbk : w.heap[p]? = some (.cells cs t fr)) (hpq : p ≠ q) (hcs : ∀ (j : Nat) (y : Int), cs[j]? ≠ some (.int .i64 y)) (o : Nat) (u : Value) : SpAt (w.setCell ⟨p, o, none⟩ u) q l := by
  obtain ⟨A, c, h1, h2, h3⟩ := h
  refine ⟨A, c, ?_, h2, ?_⟩
  · rw [Below.heap_setCell _ _ _ _ (by simp; omega)]
    exact h1
  · refine Kd.C_foot_ne (g := p) (fun h => h) h3 (fun ad e hn hb => ?_) _ ⟨by simp [World.setCell], fun i hi hne _ => Below.heap_setCell _ _ _ _ hne⟩
    obtain ⟨ad', e', hx⟩ := Kd.at_int h3 0 (by omega) (by omega)
    rw [e] at e'
    obtain rfl := Option.some.inj e'
    have ha : ad.add (0 : Int).toNat = ad := by unfold Addr.add; simp
    rw [ha] at hx
    unfold World.cell? at hx
    rw [hb, hbk] at hx
    simp only at hx
    split at hx
    · cases hx
    · exact hcs _ _ hx
theorem add_ok (p : Nat) (l : List Int) (x : Int) (w : World) (hg : Glob w) (h : FsAt w p l) (hx0 : 0 ≤ x) (hx1 : x ≤ 1000) (hl : l.length ≤ 800) :
    Calls Tryd.prog 37 #[.pointer (some ⟨p, 0, none⟩), .int .i64 x] w fun e w' => e = .returned (.tuple #[]) ∧ FsAt w' p (put x l) ∧ w.heap.size ≤ w'.heap.size ∧ ∀ (B : Nat) (w0 : World), Below B w0 w → B ≤ p → B ≤ w.heap.size → Below B w0 w' := by
  obtain ⟨hs, h⟩ := h
  obtain ⟨s1, s2, s3⟩ := put_spec x l hs
  rcases h with ⟨m, hm, hbk, hbits⟩ | ⟨q, hpq, hbk, hsp⟩
  · have h0 : w.cell? ⟨p, 0, none⟩ = some (.int .u64 m) := by rw [Lib.cell_of_heap hbk]; rfl
    have h1 : w.cell? ⟨p, 1, none⟩ = some (.pointer none) := by rw [Lib.cell_of_heap hbk]; rfl
    have z0 : w.frozen? ⟨p, 0, none⟩ = false := Lib.frozen_of_heap hbk _
    have z1 : w.frozen? ⟨p, 1, none⟩ = false := Lib.frozen_of_heap hbk _
    have hp := heap_lt hbk
    rcases Int.lt_or_le x 64 with hlt | hge
    · obtain ⟨i, rfl⟩ : ∃ i : Nat, x = i := ⟨x.toNat, by omega⟩
      have hi : i < 64 := by omega
      obtain ⟨b1, b2⟩ := bits_put m i l hm hi hbits hs
      have h2 : 2 ^ i < 18446744073709551616 := Nat.pow_lt_pow_right (by decide) hi
      have hor : bits BinOp.or IntKind.u64 (m : Int) (IntKind.u64.wrap (2 ^ i)) = ((m ||| 2 ^ i : Nat) : Int) := by
        have e : (2 : Int) ^ i = ((2 ^ i : Nat) : Int) := by push_cast; rfl
        rw [e]
        generalize 2 ^ i = z at h2 ⊢
        have ew : IntKind.u64.wrap (z : Int) = (z : Int) := by rw [IntKind.wrap_u64]; exact Int.emod_eq_of_lt (by omega) (by omega)
        rw [ew, u64_or_nat m z hm h2]
      have HF : FsAt (w.setCell ⟨p, 0, none⟩ (.int .u64 ((m ||| 2 ^ i : Nat) : Int))) p (put (i : Int) l) := ⟨s1, .inl ⟨m ||| 2 ^ i, b1, by simp [World.setCell, hbk, Array.getElem?_modify], b2⟩⟩
      have HFA := Aside0.mk HF
      generalize m ||| 2 ^ i = m2 at *
      clear HF b1 b2 s1 s2 s3 hbits hs hm h2
      go_enter Tryd.func37, Tryd.ntmps37
      go_wp2
      refine bodyPost_ret (results_none Tryd.results37 _ _ _) rfl ?_
      exact ⟨rfl, HFA.out, by simp [World.setCell], fun B w0 hb hB _ => hb.setCell (p := ⟨p, 0, none⟩) hB _⟩
    · have HL := Aside0.mk (toLarge_ok p m hm w hg h0 h1)
      have HS := Aside0.mk hs
      have HB := Aside0.mk hbits
      have HS1 := Aside0.mk s1
      clear s1 s2 s3 hbits hm
      have g64 : ¬ x < 64 := by omega
      go_enter Tryd.func37, Tryd.ntmps37
      go_wp2_with fail
      refine HL.out.mono ?_
      rintro e w2 ⟨rfl, l2, c1, c2, c3, c4⟩
      obtain rfl : l2 = l := sorted_ext _ _ c2 HS.out (fun y => by rw [c1 y, HB.out y])
      have hbk2 := (c4.block p hp).trans hbk
      have h02 : w2.cell? ⟨p, 0, none⟩ = some (.int .u64 m) := by rw [Lib.cell_of_heap hbk2]; rfl
      have h12 : w2.cell? ⟨p, 1, none⟩ = some (.pointer none) := by rw [Lib.cell_of_heap hbk2]; rfl
      have z02 : w2.frozen? ⟨p, 0, none⟩ = false := Lib.frozen_of_heap hbk2 _
      have z12 : w2.frozen? ⟨p, 1, none⟩ = false := Lib.frozen_of_heap hbk2 _
      have hpne : p ≠ w.heap.size := by omega
      have hsz2 : w.heap.size < w2.heap.size := by obtain ⟨A, c, hb, _⟩ := c3; exact heap_lt hb
      have hs3 := c3.far hbk2 hpne (by rintro (_ | _ | j) y <;> simp) 1 (.pointer (some ⟨w.heap.size, 0, none⟩))
      have hbk3 : (w2.setCell ⟨p, 1, none⟩ (.pointer (some ⟨w.heap.size, 0, none⟩))).heap[p]? = some (.cells #[.int .u64 m, .pointer (some ⟨w.heap.size, 0, none⟩)] 46 (0, 0)) := by simp [World.setCell, hbk2, Array.getElem?_modify]
      have hs4 := hs3.far hbk3 hpne (by rintro (_ | _ | j) y <;> simp) 0 (.int .u64 0)
      have hbk4 : ((w2.setCell ⟨p, 1, none⟩ (.pointer (some ⟨w.heap.size, 0, none⟩))).setCell ⟨p, 0, none⟩ (.int .u64 0)).heap[p]? = some (.cells #[.int .u64 0, .pointer (some ⟨w.heap.size, 0, none⟩)] 46 (0, 0)) := by
        rw [show ∀ (W : World) (v : Value), (W.setCell ⟨p, 0, none⟩ v).heap[p]? = (W.heap.modify p (fun o => match o with | .cells c t f => .cells (c.setIfInBounds 0 v) t f | o => o))[p]? from fun W v => rfl, Array.getElem?_modify, if_pos rfl, hbk3]
        rfl
      have HIN := Aside0.mk (insert_ok w.heap.size l2 x _ hs4 (by omega))
      have HB4 := Aside0.mk (fun (B : Nat) (w0 : World) (hb : Below B w0 w) (hB : B ≤ p) => ((hb.trans (c4.mono (by omega))).setCell (p := ⟨p, 1, none⟩) hB (.pointer (some ⟨w.heap.size, 0, none⟩))).setCell (p := ⟨p, 0, none⟩) hB (.int .u64 0))
      have hsz4 : w.heap.size < ((w2.setCell ⟨p, 1, none⟩ (.pointer (some ⟨w.heap.size, 0, none⟩))).setCell ⟨p, 0, none⟩ (.int .u64 0)).heap.size := by simp [World.setCell]; exact hsz2
      have hc4 : ((w2.setCell ⟨p, 1, none⟩ (.pointer (some ⟨w.heap.size, 0, none⟩))).setCell ⟨p, 0, none⟩ (.int .u64 0)).cell? ⟨p, 1, none⟩ = some (.pointer (some ⟨w.heap.size, 0, none⟩)) := by rw [Lib.cell_of_heap hbk4]; rfl
      clear c1 c2 c3 c4 hs3 hs4 hbk3 hbk2
      go_wp2_with fail
      refine HIN.out.mono ?_
      rintro e w5 ⟨⟨b, rfl⟩, hs5, hz5, hb5⟩
      have hbk5 := ((hb5 (p + 1) _ (Below.refl _ _) (by omega) (by omega)).block p (by omega)).trans hbk4
      have hb6 := fun (B : Nat) (w0 : World) (h : Below B w0 w) (hB : B ≤ p) => hb5 B w0 (HB4.out B w0 h hB) (by omega) (by omega)
      clear hc4 hbk4 HB4 HIN hb5
      go_wp2_with fail
      go_end0
      exact ⟨rfl, ⟨HS1.out, .inr ⟨w.heap.size, by omega, hbk5, hs5⟩⟩, by omega, fun B w0 h hB hBw => hb6 B w0 h hB⟩
  · have h1 : w.cell? ⟨p, 1, none⟩ = some (.pointer (some ⟨q, 0, none⟩)) := by rw [Lib.cell_of_heap hbk]; rfl
    have HIN := Aside0.mk (insert_ok q l x w hsp (by omega))
    have hp := heap_lt hbk
    have HS1 := Aside0.mk s1
    clear s1 s2 s3 hsp hs
    go_enter Tryd.func37, Tryd.ntmps37
    rcases Int.lt_or_le x 64 with hlt | hge
    all_goals
      go_wp2_with fail
      refine HIN.out.mono ?_
      rintro e w2 ⟨⟨b, rfl⟩, hs2, hz2, hb2⟩
      have hbk2 := ((hb2 (p + 1) w (Below.refl _ _) (by omega) (by omega)).block p (by omega)).trans hbk
      go_wp2_with fail
      go_end0
      exact ⟨rfl, ⟨HS1.out, .inr ⟨q, hpq, hbk2, hs2⟩⟩, hz2, fun B w0 h hB hBw => hb2 B w0 h (by omega) hBw⟩
end Go.Proofs.YtlghbhkpdlkhjaaDoor.PIS
