/-
  What impl.EQSets answers, in the form in which the printed text asks for it. Condition: columns from 1 to 64, at most 200 sets of at most 1000; math/bits.deBruijn64tab as laid.
-/
import Derived.Test.YtlghbhkpdlkhjaaDoorEQg
import Derived.Outline
namespace Go.Proofs.YtlghbhkpdlkhjaaDoor.PEQ
open Go.RowKit Go.Proofs.YtlghbhkpdlkhjaaDoorW.PrintWords Go.Proofs.YtlghbhkpdlkhjaaDoorW.PrintLast Go.Proofs.YtlghbhkpdlkhjaaDoorW.PrintMore
open Go.Proofs.YtlghbhkpdlkhjaaDoor.PIS (Glob)
set_option linter.unusedVariables false
set_option linter.unusedSimpArgs false
set_option maxRecDepth 100000
set_option maxHeartbeats 400000

theorem addGo_spec : ∀ (n : Nat) (l : List Nat) (m i : Nat), m < big → (∀ x ∈ l, x < big) → (∀ x ∈ addGo n l m i, x < big) ∧ (addGo n l m i).length ≤ l.length + 1
  | 0, l, m, i, hm, hl => ⟨fun x hx => by
      rcases List.mem_append.1 hx with h | h
      · exact hl x h
      · rw [List.mem_singleton.1 h]; exact hm, by simp [addGo]⟩
  | n + 1, l, m, i, hm, hl => by
    unfold addGo
    split
    · rename_i h
      split
      · have hr : ∀ x ∈ (l.set i (l[l.length - 1]'(by omega))).take (l.length - 1), x < big := fun x hx => by
          rcases List.mem_or_eq_of_mem_set (List.mem_of_mem_take hx) with h | h
          · exact hl x h
          · subst h; exact hl _ (List.getElem_mem _)
        obtain ⟨a, b⟩ := addGo_spec n _ (m ||| l[i]) i (or_lt hm (hl _ (List.getElem_mem _))) hr
        refine ⟨a, Nat.le_trans b ?_⟩
        rw [List.length_take, List.length_set]
        omega
      · exact addGo_spec n l m (i + 1) hm hl
    · refine ⟨fun x hx => ?_, by simp⟩
      rcases List.mem_append.1 hx with h | h
      · exact hl x h
      · rw [List.mem_singleton.1 h]; exact hm
def Cols (s : List Int) : Prop := (∀ x ∈ s, 1 ≤ x ∧ x ≤ 64) ∧ s.length ≤ 1000
instance (s : List Int) : Decidable (Cols s) := by unfold Cols; infer_instance
/-- the masks after some sets -/
def eqM (l : List (List Int)) : List Nat := l.foldl (fun L s => addL L (mk s)) []
theorem eqM_take (l : List (List Int)) (k : Nat) (h : k < l.length) : eqM (l.take (k + 1)) = addL (eqM (l.take k)) (mk l[k]) := by
  unfold eqM
  rw [List.take_succ_eq_append_getElem h, List.foldl_append]
  rfl
theorem eqM_spec (l : List (List Int)) (hl : ∀ s ∈ l, Cols s) : ∀ k, k ≤ l.length → (∀ x ∈ eqM (l.take k), x < big) ∧ (eqM (l.take k)).length ≤ k
  | 0, _ => by simp [eqM]
  | k + 1, h => by
    obtain ⟨a, b⟩ := eqM_spec l hl k (by omega)
    rw [eqM_take l k (by omega)]
    obtain ⟨c, d⟩ := addGo_spec (eqM (l.take k)).length (eqM (l.take k)) (mk l[k]) 0 (mk_big _ (hl _ (List.getElem_mem _)).1) a
    exact ⟨c, by unfold addL; omega⟩
def impl_EQSets.f (l0 : List (List Int)) : Option (List (List Int)) := if l0.length ≤ 200 ∧ ∀ s ∈ l0, Cols s then some ((eqM l0).map colsOf) else none
theorem EqAt.later {w w' : World} {p base : Nat} {l : List Nat} (h : EqAt w p base l) (hb : Below w.heap.size w w') : EqAt w' p base l := by
  obtain ⟨v, h1, h2, h3, h4⟩ := h
  exact ⟨v, (hb.block _ (blk_lt h1)).trans h1, h2, Nat.le_trans h3 hb.size, own_move h4 (fun k hk => hb.block k (own_lt h4 k hk))⟩
theorem impl_EQSets.calls (A0 : Option Addr) (c0 : Nat) (l0 : List (List Int)) (r : List (List Int)) (w : World) (hg : Glob w) (hr0 : Kd.C (Kd.slice 3 (Kd.int .i64)) w A0 l0.length l0) (hc0 : l0.length ≤ c0) (h : impl_EQSets.f l0 = some r) :
    Calls Tryd.prog 15 #[.slice A0 l0.length c0] w fun e w' => ∃ v0_ : Value, e = .returned (v0_) ∧ Kd.S (Kd.slice 3 (Kd.int .i64)) 22 w' w.heap.size (fun _ => True) v0_ r ∧ Below w.heap.size w w' := by
  unfold impl_EQSets.f at h
  split at h
  · rename_i hc
    obtain ⟨hn, hcols⟩ := hc
    obtain rfl := Option.some.inj h
    have HC := Aside0.mk (fun W (hb : Below w.heap.size w W) => Kd.C_below hr0 hb)
    have HG := Aside0.mk (fun W (hb : Below w.heap.size w W) => hg.later hb)
    have HCo := Aside0.mk hcols
    have HE0 : Aside0 (EqAt (w.alloc (.cells #[.slice none 0 0] 52)) w.heap.size (w.heap.size + 1) (eqM (l0.take 0))) := ⟨⟨_, heap_alloc_new _ _, by omega, by simp, own_nil _ _ _ _⟩⟩
    have HB0 := Aside0.mk (below_alloc (Below.refl w.heap.size w) (.cells #[.slice none 0 0] 52))
    clear hr0 hg h hcols
    go_enter Tryd.func15, Tryd.ntmps15
    go_wp2
    go_loopw [8] (fun t8 wr => ∃ k : Nat, t8 = .int .i64 (k : Int) ∧ k ≤ l0.length ∧ Aside0 (EqAt wr w.heap.size (w.heap.size + 1) (eqM (l0.take k))) ∧ Aside0 (Below w.heap.size w wr)) (fun t8 _ => l0.length - (intOf t8).toNat)
    case atStart => exact ⟨0, rfl, Nat.zero_le _, HE0, HB0⟩
    case round =>
      clear HE0 HB0
      obtain ⟨k, rfl, hk, HE, HB⟩ := hrel
      obtain ⟨s1, s2⟩ := eqM_spec l0 HCo.out k hk
      rcases Nat.lt_or_ge k l0.length with hlt | hge
      · obtain ⟨ad, cs, e, hcl, ⟨A, c, e2, hAc, hC⟩, hcell⟩ := Kd.C_get (HC.out wr HB.out) [] (k : Int) (by omega) (by omega)
        subst e e2
        have hx := hcell 0 _ rfl
        rw [Int.toNat_natCast, List.getD_eq_getElem?_getD, List.getElem?_eq_getElem hlt] at hx
        rw [Int.toNat_natCast, List.getD_eq_getElem?_getD, List.getElem?_eq_getElem hlt] at hC
        simp only [Option.getD_some, Nat.add_zero] at hx hC
        change wr.cell? (ad.add (k * 1)) = _ at hx
        rw [Nat.mul_one] at hx
        have hcs := HCo.out _ (List.getElem_mem hlt)
        have HK := Aside0.mk (columns_ok A c l0[k] wr hC hcs.1 hcs.2)
        have HT := Aside0.mk (eqM_take l0 k hlt)
        have hmb := mk_big _ hcs.1
        have HA := Aside0.mk (fun W h => add_ok w.heap.size (w.heap.size + 1) (eqM (l0.take k)) (mk l0[k]) W h hmb s1 (by omega))
        generalize mk l0[k] = m at *
        generalize l0[k] = s at *
        clear hcell hcl hC hcs s1 s2
        go_wp2_with fail
        refine HK.out.mono ?_
        rintro e w2 ⟨rfl, hb2⟩
        have HE2 := Aside0.mk (HE.out.later hb2)
        have HB2 := Aside0.mk (HB.out.trans (hb2.mono HB.out.size))
        clear hb2 HE HB HK
        go_wp2_with fail
        refine (HA.out _ HE2.out).mono ?_
        rintro e w3 ⟨rfl, he3, hs3⟩
        have HE3 : Aside0 (EqAt w3 w.heap.size (w.heap.size + 1) (eqM (l0.take (k + 1)))) := ⟨by rw [HT.out]; exact he3⟩
        have HB3 := Aside0.mk (HB2.out.trans (hs3.below HB2.out.size (fun z hz => by rcases hz with h | h <;> omega)))
        clear he3 hs3 HE2 HB2 HA
        go_wp2_with fail
        go_roundw
        case rel => exact ⟨k + 1, by go_num, by omega, HE3, HB3⟩
        case measure => simp [intOf]; omega
      · obtain rfl : k = l0.length := by omega
        rw [List.take_length] at HE s1 s2
        obtain ⟨v, hv, _, hbs, hO⟩ := HE.out
        obtain ⟨A, c, rfl⟩ := hO.slice
        have q0 : wr.cell? ⟨w.heap.size, 0, none⟩ = some (.slice A (eqM l0).length c) := by rw [Lib.cell_of_heap hv]; rfl
        have HT := Aside0.mk (turned_ok (w.heap.size + 1) A c (eqM l0) (by omega) s1 wr (HG.out wr HB.out) hO)
        have hsz := HB.out.size
        clear hv hO s1 HE
        go_wp2_with (first | (go_at_call 28; refine HT.out.mono ?_; rintro e w2 ⟨v2, rfl, ho2, hb2⟩; have HB2 := Aside0.mk hb2; obtain ⟨A2, c2, rfl⟩ := Kd.S_slice ho2; rw [List.length_map] at ho2; have HO2 := Aside0.mk ho2; clear ho2 hb2) | go_in)
        go_ret
        exact ⟨_, rfl, Kd.S_lower HO2.out hsz, HB.out.trans (HB2.out.mono hsz)⟩
  · cases h
end Go.Proofs.YtlghbhkpdlkhjaaDoor.PEQ
