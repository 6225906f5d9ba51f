/-
  Contract of NewFastIntSet. Condition: numbers from 0 to 1000, at most 200; math/bits.deBruijn64tab as laid.
-/
import Derived.Test.YtlghbhkpdlkhjaaDoorISf
namespace Go.Proofs.YtlghbhkpdlkhjaaDoor.PIS
open Go.RowKit Go.Proofs.YtlghbhkpdlkhjaaDoorW.PrintWords Go.Proofs.YtlghbhkpdlkhjaaDoorW.PrintLast Go.Proofs.YtlghbhkpdlkhjaaDoorW.PrintMore
set_option linter.unusedVariables false
set_option linter.unusedSimpArgs false
set_option maxRecDepth 100000
set_option maxHeartbeats 400000

/-- the numbers of a list, rising, each once -/
def ofL (l : List Int) : List Int := l.foldl (fun s x => put x s) []
theorem ofL_go : ∀ (l s : List Int), s.Pairwise (· < ·) → (l.foldl (fun s x => put x s) s).Pairwise (· < ·) ∧ (∀ y, y ∈ l.foldl (fun s x => put x s) s ↔ y ∈ l ∨ y ∈ s) ∧ (l.foldl (fun s x => put x s) s).length ≤ s.length + l.length
  | [], s, h => ⟨h, fun y => by simp, by simp⟩
  | x :: t, s, h => by
    obtain ⟨p1, p2, p3⟩ := put_spec x s h
    obtain ⟨h1, h2, h3⟩ := ofL_go t (put x s) p1
    refine ⟨h1, fun y => ?_, ?_⟩
    · rw [List.foldl_cons, h2 y, p2 y, List.mem_cons]
      constructor
      · rintro (h | h | h)
        · exact .inl (.inr h)
        · exact .inl (.inl h)
        · exact .inr h
      · rintro ((h | h) | h)
        · exact .inr (.inl h)
        · exact .inl h
        · exact .inr (.inr h)
    · rw [List.foldl_cons, List.length_cons]
      omega
theorem ofL_spec (l : List Int) : (ofL l).Pairwise (· < ·) ∧ (∀ y, y ∈ ofL l ↔ y ∈ l) ∧ (ofL l).length ≤ l.length := by
  obtain ⟨h1, h2, h3⟩ := ofL_go l [] List.Pairwise.nil
  exact ⟨h1, fun y => by rw [ofL, h2 y]; simp, by simpa [ofL] using h3⟩
theorem ofL_take (l : List Int) (k : Nat) (h : k < l.length) : ofL (l.take (k + 1)) = put l[k] (ofL (l.take k)) := by
  unfold ofL
  rw [List.take_succ_eq_append_getElem h, List.foldl_append]
  rfl
/-- a set as a value -/
def SetV (w : World) (v : Value) (l : List Int) : Prop := l.Pairwise (· < ·) ∧
  ((∃ m : Nat, m < 18446744073709551616 ∧ v = .agg #[.int .u64 m, .pointer none] ∧ Bits m 64 l) ∨ (∃ q, v = .agg #[.int .u64 0, .pointer (some ⟨q, 0, none⟩)] ∧ SpAt w q l))
theorem SetV.later {w w' : World} {v : Value} {l : List Int} (h : SetV w v l) (hb : Below w.heap.size w w') : SetV w' v l := by
  obtain ⟨h1, h2 | ⟨q, h3, h4⟩⟩ := h
  · exact ⟨h1, .inl h2⟩
  · exact ⟨h1, .inr ⟨q, h3, h4.later hb⟩⟩
theorem new_ok (A : Option Addr) (c : Nat) (l : List Int) (w : World) (hg : Glob w) (hC : Kd.C (Kd.int .i64) w A l.length l) (hl : l.length ≤ 200) (hw : ∀ x ∈ l, 0 ≤ x ∧ x ≤ 1000) :
    Calls Tryd.prog 20 #[.slice A l.length c] w fun e w' => ∃ v, e = .returned v ∧ SetV w' v (ofL l) ∧ Below w.heap.size w w' := by
  have HG := Aside0.mk hg
  have HC := Aside0.mk hC
  have HW := Aside0.mk hw
  clear hg hC hw
  go_enter Tryd.func20, Tryd.ntmps20
  go_wp2_with fail
  go_loopw [8] (fun t wr => ∃ k : Nat, t = .int .i64 (k : Int) ∧ k ≤ l.length ∧ Aside0 (FsAt wr (w.heap.size + 1) (ofL (l.take k))) ∧ w.heap.size + 1 ≤ wr.heap.size ∧ Aside0 (Below (w.heap.size + 1) (w.alloc (.cells #[.int .u64 0, .pointer none] 46)) wr)) (fun t _ => l.length - (intOf t).toNat)
  case atStart =>
    refine ⟨0, rfl, Nat.zero_le _, ⟨List.Pairwise.nil, .inl ⟨0, by decide, ?_, fun y => ⟨fun h => by simp [ofL] at h, fun ⟨j, _, _, h⟩ => by simp at h⟩⟩⟩, by simp, ⟨?_⟩⟩
    · have h := heap_alloc_new (w.alloc (.cells #[.int .u64 0, .pointer none] 46)) (.cells #[.int .u64 0, .pointer none] 46)
      rwa [show (w.alloc (.cells #[.int .u64 0, .pointer none] 46)).heap.size = w.heap.size + 1 by simp] at h
    · have h := below_alloc (Below.refl (w.alloc (.cells #[.int .u64 0, .pointer none] 46)).heap.size (w.alloc (.cells #[.int .u64 0, .pointer none] 46))) (.cells #[.int .u64 0, .pointer none] 46)
      rwa [show (w.alloc (.cells #[.int .u64 0, .pointer none] 46)).heap.size = w.heap.size + 1 by simp] at h
  case round =>
    obtain ⟨k, rfl, hk, HF, hsz, HB⟩ := hrel
    have HBw := Aside0.mk (below_then (below_alloc (Below.refl w.heap.size w) (.cells #[.int .u64 0, .pointer none] 46)) (by simp) (show Below (w.alloc (.cells #[.int .u64 0, .pointer none] 46)).heap.size _ wr by rw [show (w.alloc (.cells #[.int .u64 0, .pointer none] 46)).heap.size = w.heap.size + 1 by simp]; exact HB.out))
    have hlen := (ofL_spec (l.take k)).2.2
    have hlen2 : (l.take k).length = k := by rw [List.length_take]; omega
    rcases Nat.lt_or_ge k l.length with hlt | hge
    · obtain ⟨ad, e, hx⟩ := Kd.at_int (Kd.C_below HC.out HBw.out) (k : Int) (by omega) (by omega)
      subst e
      rw [Int.toNat_natCast] at hx
      have hget : rd l (k : Int) = l[k] := by unfold rd; rw [Int.toNat_natCast, List.getD_eq_getElem?_getD, List.getElem?_eq_getElem hlt]; rfl
      have hbd := HW.out _ (List.getElem_mem hlt)
      have htk := ofL_take l k hlt
      rw [hget] at hx
      generalize l[k] = y at *
      have HA := Aside0.mk (add_ok (w.heap.size + 1) (ofL (l.take k)) y wr (HG.out.later HBw.out) HF.out hbd.1 hbd.2 (by omega))
      rw [← htk] at HA
      clear hget hbd htk
      go_wp2_with fail
      refine HA.out.mono ?_
      rintro e w2 ⟨rfl, hf2, hz2, hb2⟩
      have HF2 := Aside0.mk hf2
      have HB2 := Aside0.mk (hb2 _ _ HB.out (Nat.le_refl _) hsz)
      clear hf2 hb2 HA HF HB
      go_wp2_with fail
      go_roundw
      case rel => exact ⟨k + 1, by go_num, by omega, HF2, by omega, HB2⟩
      case measure => simp [intOf]; omega
    · obtain rfl : k = l.length := by omega
      have hF := HF.out
      rw [List.take_length] at hF
      have h2b : wr.heap[w.heap.size]? = some (.cells #[.int .u64 0, .pointer none] 46 (0, 0)) := (HB.out.block w.heap.size (by omega)).trans (heap_alloc_new _ _)
      have r0 : wr.cell? ⟨w.heap.size, 0, none⟩ = some (.int .u64 0) := by rw [Lib.cell_of_heap h2b]; rfl
      have r1 : wr.cell? ⟨w.heap.size, 1, none⟩ = some (.pointer none) := by rw [Lib.cell_of_heap h2b]; rfl
      have z0 : wr.frozen? ⟨w.heap.size, 0, none⟩ = false := Lib.frozen_of_heap h2b _
      have z1 : wr.frozen? ⟨w.heap.size, 1, none⟩ = false := Lib.frozen_of_heap h2b _
      have HB2 := Aside0.mk HBw.out
      obtain ⟨hs, ⟨m, hm, hbk, hbits⟩ | ⟨q, hpq, hbk, hsp⟩⟩ := hF
      · have c0 : wr.cell? ⟨w.heap.size + 1, 0, none⟩ = some (.int .u64 m) := by rw [Lib.cell_of_heap hbk]; rfl
        have c1 : wr.cell? ⟨w.heap.size + 1, 1, none⟩ = some (.pointer none) := by rw [Lib.cell_of_heap hbk]; rfl
        have HS := Aside0.mk (show SetV ((wr.setCell ⟨w.heap.size, 0, none⟩ (.int .u64 m)).setCell ⟨w.heap.size, 1, none⟩ (.pointer none)) (.agg #[.int .u64 m, .pointer none]) (ofL l) from ⟨hs, .inl ⟨m, hm, rfl, hbits⟩⟩)
        clear hbits hbk hs hm HF HBw h2b
        go_wp2_with fail
        refine bodyPost_ret (v := .agg #[.int .u64 m, .pointer none]) ?_ rfl ?_
        · simp [results, Tryd.results20, go_sem, r0, r1, z0, z1]
        · exact ⟨_, rfl, HS.out, (HB2.out.setCell (p := ⟨w.heap.size, 0, none⟩) (Nat.le_refl _) _).setCell (p := ⟨w.heap.size, 1, none⟩) (Nat.le_refl _) _⟩
      · have c0 : wr.cell? ⟨w.heap.size + 1, 0, none⟩ = some (.int .u64 0) := by rw [Lib.cell_of_heap hbk]; rfl
        have c1 : wr.cell? ⟨w.heap.size + 1, 1, none⟩ = some (.pointer (some ⟨q, 0, none⟩)) := by rw [Lib.cell_of_heap hbk]; rfl
        have hs1 := hsp.far h2b (by omega) (by rintro (_ | _ | j) y <;> simp) 0 (.int .u64 0)
        have h2c : (wr.setCell ⟨w.heap.size, 0, none⟩ (.int .u64 0)).heap[w.heap.size]? = some (.cells #[.int .u64 0, .pointer none] 46 (0, 0)) := by simp [World.setCell, h2b, Array.getElem?_modify]
        have hs2 := hs1.far h2c (by omega) (by rintro (_ | _ | j) y <;> simp) 1 (.pointer (some ⟨q, 0, none⟩))
        have HS := Aside0.mk (show SetV ((wr.setCell ⟨w.heap.size, 0, none⟩ (.int .u64 0)).setCell ⟨w.heap.size, 1, none⟩ (.pointer (some ⟨q, 0, none⟩))) (.agg #[.int .u64 0, .pointer (some ⟨q, 0, none⟩)]) (ofL l) from ⟨hs, .inr ⟨q, rfl, hs2⟩⟩)
        clear hbk hs hsp hs1 hs2 h2c HF HBw h2b
        go_wp2_with fail
        refine bodyPost_ret (v := .agg #[.int .u64 0, .pointer (some ⟨q, 0, none⟩)]) ?_ rfl ?_
        · simp [results, Tryd.results20, go_sem, r0, r1, z0, z1]
        · exact ⟨_, rfl, HS.out, (HB2.out.setCell (p := ⟨w.heap.size, 0, none⟩) (Nat.le_refl _) _).setCell (p := ⟨w.heap.size, 1, none⟩) (Nat.le_refl _) _⟩
end Go.Proofs.YtlghbhkpdlkhjaaDoor.PIS
