/-
  Contracts of impl.turned over sets of columns and of impl.EQSets. Condition: math/bits.deBruijn64tab as laid; columns from 1 to 64, at most 200 sets.
-/
import Derived.Test.YtlghbhkpdlkhjaaDoorEQf
import Derived.Outline
namespace Go.Proofs.YtlghbhkpdlkhjaaDoor.PEQ
open Go.RowKit Go.Proofs.YtlghbhkpdlkhjaaDoorW.PrintWords Go.Proofs.YtlghbhkpdlkhjaaDoorW.PrintLast Go.Proofs.YtlghbhkpdlkhjaaDoorW.PrintMore
open Go.Proofs.YtlghbhkpdlkhjaaDoor.PIS (Glob)
set_option linter.unusedVariables false
set_option linter.unusedSimpArgs false
set_option maxRecDepth 100000
set_option maxHeartbeats 400000

theorem info22q : (Tryd.prog.info? 22).map (fun i => (i.zero, i.size, i.bytes)) = some (some (.slice none 0 0), 1, 24) := by kernel_rfl
theorem turned_ok (base0 : Nat) (A0 : Option Addr) (c0 : Nat) (l : List Nat) (hl : l.length ≤ 1000) (hb : ∀ x ∈ l, x < big) (w : World) (hg : Glob w) (hO : Own w base0 (.slice A0 l.length c0) l) :
    Calls Tryd.prog 28 #[.slice A0 l.length c0, .func (.func 30) #[] #[]] w fun e w' => ∃ v, e = .returned v ∧ Kd.S (Kd.slice 3 (Kd.int .i64)) 22 w' w.heap.size (fun _ => True) v (l.map colsOf) ∧ Below w.heap.size w w' := by
  have HG := Aside0.mk (fun W (h : Below w.heap.size w W) => hg.later h)
  have HO := Aside0.mk (fun W (h : Below w.heap.size w W) => own_move (w1 := W) hO (fun k hk => h.block k (own_lt hO k hk)))
  have HR := Aside0.mk hb
  clear hg hO hb
  go_enter Tryd.func28, Tryd.ntmps28
  go_wp2
  go_loopw [5, 10] (fun t5 t10 wr => ∃ k : Nat, t10 = .int .i64 (k : Int) ∧ k ≤ l.length ∧ Aside0 (Kd.S (Kd.slice 3 (Kd.int .i64)) 22 wr w.heap.size (fun _ => True) t5 ((l.take k).map colsOf)) ∧ Aside0 (Below w.heap.size w wr)) (fun _ t10 _ => l.length - (intOf t10).toNat)
  case atStart => exact ⟨0, rfl, Nat.zero_le _, ⟨Kd.S_nil _ _ _ _ _⟩, ⟨Below.refl _ _⟩⟩
  case round =>
    obtain ⟨k, rfl, hk, HS, HB⟩ := hrel
    rcases Nat.lt_or_ge k l.length with hlt | hge
    · have h0 : 0 < l.length := Nat.lt_of_le_of_lt (Nat.zero_le _) hlt
      obtain ⟨g, e, hg1, hg2, hc, hcell⟩ := Own.cells (HO.out wr HB.out) h0
      subst e
      obtain ⟨e0, e1, _⟩ := hcell k hlt
      have HI := Aside0.mk (fun W h => ids_ok l[k] (HR.out _ (List.getElem_mem _)) W (HG.out W h))
      have HT : Aside0 ((l.take (k + 1)).map colsOf = (l.take k).map colsOf ++ [colsOf l[k]]) := ⟨by rw [List.take_succ_eq_append_getElem hlt, List.map_append]; rfl⟩
      have hlx : (colsOf l[k]).length ≤ 64 := by have := bitsL_len l[k]; unfold colsOf; rw [List.length_map]; exact this
      generalize l[k] = x at *
      generalize hcx : colsOf x = xs at *
      have hlen : ((l.take k).map colsOf).length = k := by rw [List.length_map, List.length_take]; omega
      generalize hacc : (l.take k).map colsOf = acc at *
      have HA := Aside0.mk hacc
      have hla : acc.length ≤ 1000 := by omega
      clear hacc hlen
      have HX := Aside0.mk hcx
      clear hcx hcell
      have HB1 := Aside0.mk (below_alloc HB.out (.cells #[.int .u64 (x : Int), .pointer none] 55))
      have HBb := Aside0.mk (below_alloc (Below.refl wr.heap.size wr) (.cells #[.int .u64 (x : Int), .pointer none] 55))
      obtain ⟨A5, c5, rfl⟩ := Kd.S_slice HS.out
      go_wp2_with fail
      go_loud (refine (HI.out _ HB1.out).mono ?_)
      rintro e w2 ⟨v5, rfl, ho5, hb2⟩
      have hb2' : Below wr.heap.size wr w2 := HBb.out.trans (hb2.mono (by simp))
      have hsz := HB.out.size
      have hbase5 : ∀ z, v5.ownBlock = some z → wr.heap.size ≤ z := fun z hz => by have := Kd.R_base ho5 z hz; simp at this; omega
      have HS2 := Aside0.mk (Kd.S_elder' HS.out hbase5 hb2')
      have hlt5 : ∀ z, (Value.slice A5 acc.length c5).ownBlock = some z → z < wr.heap.size := Kd.S_lt HS.out
      have HO5 := Aside0.mk (Kd.R_lower (base' := w.heap.size) ho5 (by simp; omega))
      have HB2 := Aside0.mk (HB.out.trans (hb2'.mono hsz))
      have hs2 := HB2.out.size
      obtain ⟨A6, c6, rfl⟩ := Kd.R_slice ho5
      have HD : Aside0 (∀ z, some z = (Value.slice A6 xs.length c6).ownBlock → some z ≠ (Value.slice A5 acc.length c5).ownBlock) := ⟨fun z hz e => by
        have a := hbase5 z hz.symm
        have b := hlt5 z e.symm
        omega⟩
      clear ho5 hb2 hb2' HS HB1 HBb hbase5 hlt5 HI
      go_wp2_with ((with_reducible refine gate_builtin (b := .append) (xs := #[.tmp 14, .tmp 18]) rfl ?_); at_builtin; go_loud (refine Kd.S_append (Kd.slice 3 (Kd.int .i64)) (w0 := w) (W := w2) w.heap.size rfl (.tmp 14) (.tmp 18) 29 22 (.slice none 0 0) 24 rfl Tryd.underlying29 info22q rfl (by decide) (by decide) (.slice A5 acc.length c5) acc xs [.slice A6 xs.length c6] (fun _ => True) (fun z => some z = (Value.slice A6 xs.length c6).ownBlock) rfl rfl (Kd.M_row (Kd.R_tight rfl HO5.out)) (fun z hz => ⟨trivial, HD.out z hz⟩) (fun _ _ => trivial) (Kd.S_mono HS2.out (fun z hz => ⟨trivial, fun e => hz.2 e⟩)) HB2.out hs2 (by omega) ?_; intro v1 w3 ho hb3 hg3 hat; clear hg3 hat; have HO3 := Aside0.mk ho; have HB3 := Aside0.mk hb3; clear ho hb3))
      go_roundw
      case rel => exact ⟨k + 1, by go_num, by omega, ⟨by rw [HT.out]; exact HO3.out⟩, HB3⟩
      case measure => simp [intOf]; omega
    · obtain rfl : k = l.length := by omega
      rw [List.take_length] at HS
      obtain ⟨A5, c5, rfl⟩ := Kd.S_slice HS.out
      go_wp2
      go_ret
      exact ⟨_, rfl, HS.out, HB.out⟩
end Go.Proofs.YtlghbhkpdlkhjaaDoor.PEQ
