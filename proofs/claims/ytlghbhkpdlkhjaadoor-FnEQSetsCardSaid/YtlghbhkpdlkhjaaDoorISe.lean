/-
  Contracts of FastIntSet.toLarge, Add and of NewFastIntSet. Condition: numbers from 0 to 1000, at most 200; math/bits.deBruijn64tab as laid.
-/
import Derived.Test.YtlghbhkpdlkhjaaDoorISc
namespace Go.Proofs.YtlghbhkpdlkhjaaDoor.PIS
open Go.RowKit Go.Proofs.YtlghbhkpdlkhjaaDoorW.PrintWords Go.Proofs.YtlghbhkpdlkhjaaDoorW.PrintLast Go.Proofs.YtlghbhkpdlkhjaaDoorW.PrintMore
set_option linter.unusedVariables false
set_option linter.unusedSimpArgs false
set_option maxRecDepth 100000
set_option maxHeartbeats 400000

/-- the bits of m below k are the numbers of l -/
def Bits (m k : Nat) (l : List Int) : Prop := ∀ y : Int, y ∈ l ↔ ∃ j : Nat, y = j ∧ j < k ∧ m.testBit j = true
theorem Bits.len {m k : Nat} {l : List Int} (h : Bits m k l) (hs : l.Pairwise (· < ·)) : l.length ≤ k := by
  have hsub : l ⊆ (List.range k).map Int.ofNat := fun y hy => by
    obtain ⟨j, rfl, hj, _⟩ := (h y).1 hy
    exact List.mem_map.2 ⟨j, List.mem_range.2 hj, rfl⟩
  have hnd : l.Nodup := hs.imp (fun h => Int.ne_of_lt h)
  have := hnd.length_le_of_subset hsub
  simpa using this
def nI : Option Nat → Int
  | some i => i
  | none => 9223372036854775807
def left (t4 t5 : Value) : Nat := match t5 with
  | .bool true => 65 - (intOf t4).toNat
  | _ => 0
theorem toLarge_ok (p m : Nat) (hm : m < 18446744073709551616) (w : World) (hg : Glob w) (h0 : w.cell? ⟨p, 0, none⟩ = some (.int .u64 m)) (h1 : w.cell? ⟨p, 1, none⟩ = some (.pointer none)) :
    Calls Tryd.prog 42 #[.pointer (some ⟨p, 0, none⟩)] w fun e w' => e = .returned (.pointer (some ⟨w.heap.size, 0, none⟩)) ∧ ∃ l, Bits m 64 l ∧ l.Pairwise (· < ·) ∧ SpAt w' w.heap.size l ∧ Below w.heap.size w w' := by
  have hp := World.block_lt_of_cell? w _ h0
  have hp' : ¬ p = w.heap.size := by simp at hp; omega
  have HG := Aside0.mk hg
  have HX : Aside0 (∀ (k : Nat), k ≤ 64 → ∀ W, Glob W → Calls Tryd.prog 76 #[.agg #[.int .u64 m, .pointer none], .int .i64 (k : Int)] W fun e w' => ∃ r : Option Nat, NextP m k r ∧ e = .returned (.tuple #[.int .i64 (nI r), .bool r.isSome]) ∧ Below W.heap.size W w') :=
    ⟨fun k hk W hW => (next_ok m k hm hk W hW).mono fun e w' ⟨r, h1, h2, h3⟩ => ⟨r, h1, by rw [h2]; cases r <;> rfl, h3⟩⟩
  clear hg hm
  have H0 : Aside0 (Calls Tryd.prog 76 #[.agg #[.int .u64 m, .pointer none], .int .i64 0] (w.alloc (.cells #[.slice none 0 0] 102)) fun e w' => ∃ r : Option Nat, NextP m 0 r ∧ e = .returned (.tuple #[.int .i64 (nI r), .bool r.isSome]) ∧ Below (w.alloc (.cells #[.slice none 0 0] 102)).heap.size (w.alloc (.cells #[.slice none 0 0] 102)) w') := ⟨HX.out 0 (by omega) _ (HG.out.later (below_alloc (Below.refl _ _) _))⟩
  go_enter Tryd.func42, Tryd.ntmps42
  go_wp2_with fail
  refine H0.out.mono ?_
  rintro e w2 ⟨r, hr, rfl, hb⟩
  have hsp : SpAt (w.alloc (.cells #[.slice none 0 0] 102)) w.heap.size [] := ⟨none, 0, heap_alloc_new _ _, Nat.le_refl _, ⟨rfl, Nat.zero_le _, fun h => absurd h (by simp)⟩⟩
  have HS0 := Aside0.mk (hsp.later hb)
  have HB0 := Aside0.mk (below_then (below_alloc (Below.refl w.heap.size w) (.cells #[.slice none 0 0] 102)) (by simp) hb)
  have HR := Aside0.mk hr
  clear hr hb hsp H0
  go_wp2_with fail
  go_loopw [4, 5] (fun t4 t5 wr => ∃ (k : Nat) (r : Option Nat) (l : List Int), t4 = .int .i64 (nI r) ∧ t5 = .bool r.isSome ∧ k ≤ 64 ∧ Aside0 (NextP m k r) ∧ Aside0 (Bits m k l) ∧ Aside0 (l.Pairwise (· < ·)) ∧ Aside0 (SpAt wr w.heap.size l) ∧ Aside0 (Below w.heap.size w wr)) (fun t4 t5 _ => left t4 t5)
  case atStart => exact ⟨0, r, [], rfl, rfl, by omega, HR, ⟨fun y => ⟨fun h => by simp at h, fun ⟨j, _, h, _⟩ => absurd h (by omega)⟩⟩, ⟨List.Pairwise.nil⟩, HS0, HB0⟩
  case round =>
    clear HS0 HB0 HR
    obtain ⟨k, r1, l, rfl, rfl, hk, HN, HL, HP, HS, HB⟩ := hrel
    cases r1 with
    | none =>
      have hbits : Bits m 64 l := fun y => by
        rw [HL.out y]
        constructor
        · rintro ⟨j, h1, h2, h3⟩
          exact ⟨j, h1, by omega, h3⟩
        · rintro ⟨j, h1, h2, h3⟩
          refine ⟨j, h1, ?_, h3⟩
          rcases Nat.lt_or_ge j k with h | h
          · exact h
          · rw [HN.out j h] at h3; cases h3
      rw [show nI none = 9223372036854775807 from rfl, show (none : Option Nat).isSome = false from rfl]
      go_wp2_with fail
      go_ret
      exact ⟨rfl, l, hbits, HP.out, HS.out, HB.out⟩
    | some i =>
      obtain ⟨n1, n2, n3, n4⟩ := HN.out
      have hlen := HL.out.len HP.out
      obtain ⟨p1, p2, p3⟩ := put_spec (i : Int) l HP.out
      have hbits : Bits m (i + 1) (put (i : Int) l) := fun y => by
        rw [p2 y, HL.out y]
        constructor
        · rintro (rfl | ⟨j, h1, h2, h3⟩)
          · exact ⟨i, rfl, by omega, n3⟩
          · exact ⟨j, h1, by omega, h3⟩
        · rintro ⟨j, h1, h2, h3⟩
          rcases Nat.lt_or_ge j k with h | h
          · exact .inr ⟨j, h1, h, h3⟩
          · rcases Nat.lt_or_ge j i with h4 | h4
            · rw [n4 j h h4] at h3; cases h3
            · obtain rfl : j = i := by omega
              exact .inl h1
      have HIN := Aside0.mk (insert_ok w.heap.size l (i : Int) wr HS.out (by omega))
      have hB2 := Aside0.mk hbits
      have hP2 := Aside0.mk p1
      have hsw := HB.out.size
      have HX2 := Aside0.mk (HX.out (i + 1) (by omega))
      rw [show ((i + 1 : Nat) : Int) = (i : Int) + 1 by omega] at HX2
      clear hbits p1 p2 p3 HN HL HP n1 n3 n4 hlen
      rw [show nI (some i) = (i : Int) from rfl, show (some i).isSome = true from rfl]
      go_wp2_with fail
      refine HIN.out.mono ?_
      rintro e w3 ⟨⟨b, rfl⟩, hs3, hz3, hb3⟩
      have HS3 := Aside0.mk hs3
      have HB3 := Aside0.mk (hb3 _ _ HB.out (Nat.le_refl _) hsw)
      have h03 := (HB3.out.cell (World.block_lt_of_cell? w _ h0)).trans h0
      have h13 := (HB3.out.cell (World.block_lt_of_cell? w _ h1)).trans h1
      have hG3 := Aside0.mk (HG.out.later HB3.out)
      clear hs3 hb3 HIN HS HB
      go_wp2_with fail
      refine (HX2.out _ hG3.out).mono ?_
      rintro e w4 ⟨r4, hr4, rfl, hb4⟩
      have HS4 := Aside0.mk (HS3.out.later hb4)
      have HB4 := Aside0.mk (below_then HB3.out HB3.out.size hb4)
      have HR4 := Aside0.mk hr4
      have hle : left (.int .i64 (nI r4)) (.bool r4.isSome) < 65 - i := by
        cases r4 with
        | none => show 0 < _; omega
        | some i4 => have := hr4.1; show 65 - (intOf (.int .i64 (i4 : Int))).toNat < _; simp [intOf]; omega
      clear hr4 hb4 HX2 HS3 HB3
      go_wp2_with fail
      go_roundw
      case rel => exact ⟨i + 1, r4, _, rfl, rfl, by omega, HR4, hB2, hP2, HS4, HB4⟩
      case measure => simpa [left, intOf] using hle
end Go.Proofs.YtlghbhkpdlkhjaaDoor.PIS
