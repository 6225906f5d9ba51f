/-
  Contracts of laws.zzFits6 and laws.rrList: whether rows are short, and at most five of them with one more, their ranges with values. Condition: the numbers are of 64 bits.
-/
import Derived.Test.YtlcoodjkolponaaDoorRSd
namespace Go.Proofs.YtlcoodjkolponaaDoor.PRR
open Go.RowKit Go.Proofs.YtlcoodjkolponaaDoorW.PrintWords Go.Proofs.YtlcoodjkolponaaDoorW.PrintLast Go.Proofs.YtlcoodjkolponaaDoorW.PrintMore
open Go.Proofs.YtlcoodjkolponaaDoor.PRG (C cmpC typV)
set_option linter.unusedVariables false
set_option linter.unusedSimpArgs false
set_option maxRecDepth 100000
set_option maxHeartbeats 1000000

def BoolOut (e : Ending) : Prop := ∃ b : Bool, e = .returned (.bool b)
theorem fits6_ok (A0 : Option Addr) (c0 : Nat) (l : List (List S44)) (w : World) (hC : Kd.C (Kd.slice 44 k44) w A0 l.length l) :
    Calls Tryd.prog 16 #[.slice A0 l.length c0] w fun e w' => BoolOut e ∧ Below w.heap.size w w' := by
  have hmax : l.length ≤ 9223372036854775807 := hC.2.1
  have HC := Aside0.mk (fun W (h : Below w.heap.size w W) => Kd.C_below hC h)
  clear hC
  go_enter Tryd.func16, Tryd.ntmps16
  go_wp2
  · go_ret
    exact ⟨⟨_, rfl⟩, Below.refl _ _⟩
  · go_loopw [10] (fun t10 wr => ∃ k : Nat, t10 = .int .i64 (k : Int) ∧ k ≤ l.length ∧ Aside0 (Below w.heap.size w wr)) (fun t10 _ => l.length - (intOf t10).toNat)
    case atStart => exact ⟨0, rfl, Nat.zero_le _, ⟨Below.refl _ _⟩⟩
    case round =>
      obtain ⟨k, rfl, hk, HB⟩ := hrel
      rcases Nat.lt_or_ge k l.length with hlt | hge
      · obtain ⟨ad, A', c', rfl, hcell, hle, hxC⟩ := at_rows (HC.out wr HB.out) k hlt hlt
        generalize l[k].length = m at *
        clear hxC hle
        by_cases hm : m ≤ 2147483647
        · go_wp2
          go_roundw
          case rel => exact ⟨k + 1, by go_num, by omega, HB⟩
          case measure => simp [intOf]; omega
        · go_wp2
          go_ret
          exact ⟨⟨_, rfl⟩, HB.out⟩
      · obtain rfl : k = l.length := by omega
        go_wp2
        go_ret
        exact ⟨⟨_, rfl⟩, HB.out⟩
/-- Ranges with values, as many as asked for. -/
theorem rrFull_ok (A0 : Option Addr) (c0 : Nat) (l : List S44) (m : Nat) (hm : m ≤ 3) (hx : ∀ x ∈ l, WholeS x) (hc : l.length ≤ c0) (w : World) (hC : Kd.C k44 w A0 l.length l) :
    Calls Tryd.prog 32 #[.slice A0 l.length c0, .int .i64 (m : Int)] w fun e w' => ∃ v r, e = .returned v ∧ r.length = m ∧ (∀ x ∈ r, FullS x) ∧ Kd.R k44 44 w' w.heap.size (fun _ => True) v r ∧ Below w.heap.size w w' := by
  obtain ⟨r, hr, hlen, hf⟩ := full_list l hx (m : Int) (by omega) (by omega) 12 (by omega)
  refine (laws_rrFull.calls 12 A0 c0 l (m : Int) r w hC hc hr).mono ?_
  rintro e w' ⟨v, rfl, hR, hB⟩
  exact ⟨v, r, rfl, by omega, hf, hR, hB⟩
theorem rrList_ok (A0 : Option Addr) (c0 : Nat) (l : List (List S44)) (u : Int) (hu : 0 ≤ u ∧ u ≤ 255) (hx : ∀ x ∈ l, ∀ y ∈ x, WholeS y) (w : World) (hC : Kd.C (Kd.slice 44 k44) w A0 l.length l) :
    Calls Tryd.prog 17 #[.slice A0 l.length c0, .int .u8 u, .int .i64 5] w fun e w' => ∃ (A : Option Addr) (c : Nat) (out : List (List S44)) (z : Value) (m : Nat), e = .returned (.tuple #[.slice A out.length c, z]) ∧ m ≤ 3 ∧ Rows m out ∧ 1 ≤ out.length ∧ out.length ≤ 6 ∧ 1 ≤ m ∧ Kd.C (Kd.slice 44 k44) w' A out.length out ∧ Below w.heap.size w w' := by
  have hmax : l.length ≤ 9223372036854775807 := hC.2.1
  have HC := Aside0.mk (fun W (h : Below w.heap.size w W) => Kd.C_below hC h)
  have HX := Aside0.mk hx
  clear hC hx
  obtain ⟨m, hm1, hm3, hmu⟩ : ∃ m : Nat, 1 ≤ m ∧ m ≤ 3 ∧ 1 + u % 3 = (m : Int) := ⟨(1 + u % 3).toNat, by omega, by omega, by omega⟩
  go_enter Tryd.func17, Tryd.ntmps17
  go_wp2
  clear hmu
  go_loopw [9, 10] (fun t9 t10 wr => ∃ (k : Nat) (acc : List (List S44)), t10 = .int .i64 (k : Int) ∧ k ≤ l.length ∧ k ≤ 5 ∧ acc.length = k ∧ Aside0 (Rows m acc) ∧ Aside0 (Kd.R (Kd.slice 44 k44) 40 wr w.heap.size (fun _ => True) t9 acc) ∧ Aside0 (Below w.heap.size w wr)) (fun _ t10 _ => l.length - (intOf t10).toNat)
  case atStart => exact ⟨0, [], rfl, Nat.zero_le _, by omega, rfl, ⟨fun _ h => by cases h⟩, ⟨Kd.R_nil _ _ _ _ _⟩, ⟨Below.refl _ _⟩⟩
  case round =>
    obtain ⟨k, acc, rfl, hk, hk5, hacc, HA, HR, HB⟩ := hrel
    obtain ⟨A5, c5, rfl⟩ := Kd.R_slice HR.out
    by_cases hgo : k < l.length ∧ k < 5
    · obtain ⟨hlt, h5⟩ := hgo
      obtain ⟨ad, A', c', rfl, hcell, hle, hxC⟩ := at_rows (HC.out wr HB.out) k hlt hlt
      have HE := Aside0.mk (rrFull_ok A' c' l[k] m hm3 (HX.out _ (List.getElem_mem hlt)) hle wr hxC)
      clear hle hxC
      generalize l[k].length = n at *
      go_wp2_with fail
      refine HE.out.mono ?_
      rintro e w2 ⟨v, y, rfl, hy, hf, hv, hb2⟩
      obtain ⟨A6, c6, rfl⟩ := Kd.R_slice hv
      have HR2 := Aside0.mk (Kd.R_below HR.out hb2)
      have HB2 := Aside0.mk (below_step HB.out hb2)
      have hs2 := HB2.out.size
      obtain ⟨inner, ho⟩ := Kd.R_own HR.out
      have HM := Aside0.mk ((Kd.slice 44 k44).M_lower HB.out.size (Kd.M_new (d := Kd.slice 44 k44) ⟨_, rfl, hv⟩ ho))
      have HA2 : Aside0 (Rows m (acc ++ [y])) := ⟨fun a ha => by
        rcases List.mem_append.1 ha with h | h
        · exact HA.out a h
        · rw [List.mem_singleton.1 h]; exact ⟨hy, hf⟩⟩
      have HL := Aside0.mk hacc
      have hla : (acc.length + 1) * 24 ≤ 140737488355328 := by omega
      clear hb2 HR HE hv ho HA hy hf hacc
      go_wp2_with ((with_reducible refine gate_builtin (b := .append) (xs := #[.tmp 26, .tmp 33]) rfl ?_); at_builtin; go_loud (refine Kd.R_append (Kd.slice 44 k44) (w0 := w) (W := w2) w.heap.size rfl (.tmp 26) (.tmp 33) 33 40 (.slice none 0 0) 24 rfl Tryd.underlying33 info40 rfl (by decide) (by decide) (.slice A5 acc.length c5) acc y [.slice A6 y.length c6] (fun _ => True) (fun k => True ∧ some k ≠ (Value.slice A5 acc.length c5).ownBlock) rfl rfl HM.out (fun z hz => ⟨trivial, hz.2⟩) (fun _ _ => trivial) HR2.out HB2.out hs2 hla ?_; intro v1 w3 ho hb3 hg3 hat; clear hg3 hat; have HO3 := Aside0.mk ho; have HB3 := Aside0.mk hb3; clear ho hb3))
      go_roundw
      case rel => exact ⟨k + 1, _, by go_num, by omega, by omega, by rw [List.length_append, HL.out]; rfl, HA2, HO3, HB3⟩
      case measure => simp [intOf]; omega
    · have hE : Aside0 (Calls Tryd.prog 32 #[.slice (some ⟨wr.heap.size, 0, none⟩) 1 1, .int .i64 (m : Int)] (wr.alloc (.cells #[.int .i64 2, .int .i64 1, .int .i64 3, .int .i64 4] 44)) fun e w' => ∃ v r, e = .returned v ∧ r.length = m ∧ (∀ x ∈ r, FullS x) ∧ Kd.R k44 44 w' (wr.alloc (.cells #[.int .i64 2, .int .i64 1, .int .i64 3, .int .i64 4] 44)).heap.size (fun _ => True) v r ∧ Below (wr.alloc (.cells #[.int .i64 2, .int .i64 1, .int .i64 3, .int .i64 4] 44)).heap.size (wr.alloc (.cells #[.int .i64 2, .int .i64 1, .int .i64 3, .int .i64 4] 44)) w') := ⟨by
        refine rrFull_ok _ 1 [⟨⟨2, 1⟩, ⟨3, 4⟩⟩] m hm3 (fun x hx => by rw [List.mem_singleton.1 hx]; unfold WholeS I64; simp) (Nat.le_refl _) _ ?_
        refine ⟨rfl, by simp, fun _ => ⟨_, rfl, fun j p hj => ?_⟩⟩
        match j with
        | 0 =>
          simp only [List.getElem?_cons_zero, Option.some.injEq] at hj
          subst hj
          refine ⟨[.int .i64 2, .int .i64 1, .int .i64 3, .int .i64 4], rfl, k44_mk _ _, fun q u hq => ?_⟩
          have e : (Addr.add ⟨wr.heap.size, 0, none⟩ (0 * k44.sz + q)) = ⟨wr.heap.size, q, none⟩ := by
            unfold Addr.add; split <;> simp_all
          rw [e, blk_cell (blk_new wr _)]
          simpa using hq
        | j + 1 => simp at hj⟩
      have hla : (acc.length + 1) * 24 ≤ 140737488355328 := by omega
      have HLB := Aside0.mk (below_alloc (Below.refl wr.heap.size wr) (.cells #[.int .i64 2, .int .i64 1, .int .i64 3, .int .i64 4] 44))
      have hsz : wr.heap.size ≤ (wr.alloc (.cells #[.int .i64 2, .int .i64 1, .int .i64 3, .int .i64 4] 44)).heap.size := by simp
      have HL := Aside0.mk hacc
      clear hmax HC HX hacc
      have hdone : (decide ((k : Int) < l.length) && decide ((k : Int) < 5)) = false := by
        rw [Bool.and_eq_false_iff, decide_eq_false_iff_not, decide_eq_false_iff_not]; omega
      by_cases hk1 : k < l.length
      · have hk2 : ¬ k < 5 := by omega
        go_wp2_with fail
        refine hE.out.mono ?_
        rintro e w2 ⟨v, y, rfl, hy, hf, hv, hb2⟩
        obtain ⟨A6, c6, rfl⟩ := Kd.R_slice hv
        have hbw : Below wr.heap.size wr w2 := below_step HLB.out hb2
        have HR2 := Aside0.mk (Kd.R_below HR.out hbw)
        have HB2 := Aside0.mk (below_step HB.out hbw)
        have hs2 := HB2.out.size
        obtain ⟨inner, ho⟩ := Kd.R_own HR.out
        have HM := Aside0.mk ((Kd.slice 44 k44).M_lower HB.out.size (Kd.M_new (d := Kd.slice 44 k44) ((Kd.slice 44 k44).M_lower hsz ⟨_, rfl, hv⟩) ho))
        have HA2 : Aside0 (Rows m (acc ++ [y])) := ⟨fun a ha => by
          rcases List.mem_append.1 ha with h | h
          · exact HA.out a h
          · rw [List.mem_singleton.1 h]; exact ⟨hy, hf⟩⟩
        clear hb2 hbw HR hE hv ho HA hy hf
        go_wp2_with ((with_reducible refine gate_builtin (b := .append) (xs := #[.tmp 35, .tmp 42]) rfl ?_); at_builtin; go_loud (refine Kd.R_append (Kd.slice 44 k44) (w0 := w) (W := w2) w.heap.size rfl (.tmp 35) (.tmp 42) 33 40 (.slice none 0 0) 24 rfl Tryd.underlying33 info40 rfl (by decide) (by decide) (.slice A5 acc.length c5) acc y [.slice A6 y.length c6] (fun _ => True) (fun k => True ∧ some k ≠ (Value.slice A5 acc.length c5).ownBlock) rfl rfl HM.out (fun z hz => ⟨trivial, hz.2⟩) (fun _ _ => trivial) HR2.out HB2.out hs2 hla ?_; intro v1 w3 ho hb3 hg3 hat; clear hg3 hat; have HO3 := Aside0.mk ho; have HB3 := Aside0.mk hb3; clear ho hb3; obtain ⟨A7, c7, rfl⟩ := Kd.R_slice HO3.out))
        go_ret2
        exact ⟨A7, c7, acc ++ [y], .int .i64 (m : Int), m, by rw [show (acc ++ [y]).length = acc.length + 1 by simp]; rfl, hm3, HA2.out, by rw [List.length_append, HL.out]; simp, by rw [List.length_append, HL.out]; simp; omega, hm1, (Kd.R_reads' HO3.out).2.2, HB3.out⟩
      · go_wp2_with fail
        refine hE.out.mono ?_
        rintro e w2 ⟨v, y, rfl, hy, hf, hv, hb2⟩
        obtain ⟨A6, c6, rfl⟩ := Kd.R_slice hv
        have hbw : Below wr.heap.size wr w2 := below_step HLB.out hb2
        have HR2 := Aside0.mk (Kd.R_below HR.out hbw)
        have HB2 := Aside0.mk (below_step HB.out hbw)
        have hs2 := HB2.out.size
        obtain ⟨inner, ho⟩ := Kd.R_own HR.out
        have HM := Aside0.mk ((Kd.slice 44 k44).M_lower HB.out.size (Kd.M_new (d := Kd.slice 44 k44) ((Kd.slice 44 k44).M_lower hsz ⟨_, rfl, hv⟩) ho))
        have HA2 : Aside0 (Rows m (acc ++ [y])) := ⟨fun a ha => by
          rcases List.mem_append.1 ha with h | h
          · exact HA.out a h
          · rw [List.mem_singleton.1 h]; exact ⟨hy, hf⟩⟩
        clear hb2 hbw HR hE hv ho HA hy hf
        go_wp2_with ((with_reducible refine gate_builtin (b := .append) (xs := #[.tmp 35, .tmp 42]) rfl ?_); at_builtin; go_loud (refine Kd.R_append (Kd.slice 44 k44) (w0 := w) (W := w2) w.heap.size rfl (.tmp 35) (.tmp 42) 33 40 (.slice none 0 0) 24 rfl Tryd.underlying33 info40 rfl (by decide) (by decide) (.slice A5 acc.length c5) acc y [.slice A6 y.length c6] (fun _ => True) (fun k => True ∧ some k ≠ (Value.slice A5 acc.length c5).ownBlock) rfl rfl HM.out (fun z hz => ⟨trivial, hz.2⟩) (fun _ _ => trivial) HR2.out HB2.out hs2 hla ?_; intro v1 w3 ho hb3 hg3 hat; clear hg3 hat; have HO3 := Aside0.mk ho; have HB3 := Aside0.mk hb3; clear ho hb3; obtain ⟨A7, c7, rfl⟩ := Kd.R_slice HO3.out))
        go_ret2
        exact ⟨A7, c7, acc ++ [y], .int .i64 (m : Int), m, by rw [show (acc ++ [y]).length = acc.length + 1 by simp]; rfl, hm3, HA2.out, by rw [List.length_append, HL.out]; simp, by rw [List.length_append, HL.out]; simp; omega, hm1, (Kd.R_reads' HO3.out).2.2, HB3.out⟩
end Go.Proofs.YtlcoodjkolponaaDoor.PRR
