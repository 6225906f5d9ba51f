/-
  Contracts of points: points of two numbers become the program's. No condition.
-/
import Derived.Test.YtkcffmnccjemiaaGDb
namespace Go.Proofs.Ytkcffmnccjemiaa.GD
open Go.RowKit Go.Proofs.YtkcffmnccjemiaaW.PrintWords Go.Proofs.YtkcffmnccjemiaaW.PrintLast Go.Proofs.YtkcffmnccjemiaaW.PrintMore
set_option linter.unusedVariables false
set_option linter.unusedSimpArgs false
set_option maxRecDepth 100000
set_option maxHeartbeats 400000

theorem points1_ok (s : Int) (g : Nat) (a b : Nat) (w : World) (hg : w.heap[g]? = some (.cells #[.int .u32 s] 22 (0, 0))) :
    Calls Try.prog 21 #[pt a b, .pointer (some ⟨g, 0, none⟩)] w fun e w' => e = .returned (tp s a b) ∧ Below w.heap.size w w' := by
  have hc : w.cell? ⟨g, 0, none⟩ = some (.int .u32 s) := by rw [Lib.cell_of_heap hg]; rfl
  have hlt := blk_lt hg
  have hne : ¬ g = w.heap.size := by omega
  go_enter Try.func21, Try.ntmps21
  go_wp2
  have hb := heap_alloc_new (w.alloc (.cells #[.float .f64 a, .float .f64 b] 65)) (.cells #[.int .u32 s, .float .f64 a, .float .f64 b] 43)
  rw [show (w.alloc (.cells #[.float .f64 a, .float .f64 b] 65)).heap.size = w.heap.size + 1 by simp] at hb
  refine bodyPost_ret (results_cell_row rfl _ _ (w.heap.size + 1) 43 #[.int .u32 s, .float .f64 a, .float .f64 b] (0, 0) _ rfl hb Try.underlying43 rfl (by kernel_rfl)) rfl ?_
  exact ⟨rfl, by repeat (first | (with_reducible exact Below.refl _ _) | (with_reducible apply below_alloc))⟩
def kP : Kd (Int × Nat × Nat) := Kd.pair (Kd.int .u32) (Kd.pair kF kF)
theorem infoP : (Try.prog.info? 43).map (fun i => (i.zero, i.size, i.bytes)) = some (some (.agg #[.int .u32 0, .float .f64 0, .float .f64 0]), 3, 24) := by kernel_rfl
theorem turned_ok (s : Int) (A0 : Option Addr) (c0 g : Nat) (l : List (Nat × Nat)) (hl : l.length ≤ 1000) (w : World) (hC : kQ.C w A0 l.length l) (hg : w.heap[g]? = some (.cells #[.int .u32 s] 22 (0, 0))) :
    Calls Try.prog 20 #[.slice A0 l.length c0, .func (.func 21) #[] #[.pointer (some ⟨g, 0, none⟩)]] w fun e w' => ∃ v, e = .returned v ∧ kP.R 43 w' w.heap.size (fun _ => True) v (l.map (fun p => (s, p))) ∧ Below w.heap.size w w' := by
  have HC := Aside0.mk (fun W (h : Below w.heap.size w W) => Kd.C_below hC h)
  have HG := Aside0.mk hg
  have hglt := blk_lt hg
  clear hC hg
  go_enter Try.func20, Try.ntmps20
  go_wp2
  go_loopw [5, 10] (fun t5 t10 wr => ∃ k : Nat, t10 = .int .i64 (k : Int) ∧ k ≤ l.length ∧ Aside0 (kP.R 43 wr w.heap.size (fun _ => True) t5 ((l.take k).map (fun p => (s, p)))) ∧ Aside0 (Below w.heap.size w wr)) (fun _ t10 _ => l.length - (intOf t10).toNat)
  case atStart => exact ⟨0, rfl, Nat.zero_le _, ⟨Kd.R_nil _ _ _ _ _⟩, ⟨Below.refl _ _⟩⟩
  case round =>
    obtain ⟨k, rfl, hk, HR, HB⟩ := hrel
    rcases Nat.lt_or_ge k l.length with hlt | hge
    · obtain ⟨ad, p, rfl, hp, q0, q1⟩ := at_Q (HC.out wr HB.out) k hlt
      have HT : Aside0 ((l.take (k + 1)).map (fun p => (s, p)) = (l.take k).map (fun p => (s, p)) ++ [(s, p)]) := ⟨by
        rw [List.take_succ_eq_append_getElem hlt, List.map_append]
        rw [List.getElem?_eq_getElem hlt] at hp
        rw [Option.some.inj hp]
        rfl⟩
      have hlen : ((l.take k).map (fun p => (s, p))).length = k := by rw [List.length_map, List.length_take]; omega
      generalize hacc : (l.take k).map (fun p => (s, p)) = acc at *
      have hla : (acc.length + 1) * 24 ≤ 140737488355328 := by omega
      clear hacc hlen hp
      obtain ⟨x, y⟩ := p
      have HB1 := Aside0.mk (below_alloc (Below.refl wr.heap.size wr) (.cells #[.float .f64 x, .float .f64 y] 65))
      have HGr := Aside0.mk ((HB1.out.block g (Nat.lt_of_lt_of_le hglt HB.out.size)).trans ((HB.out.block g hglt).trans HG.out))
      obtain ⟨A5, c5, rfl⟩ := Kd.R_slice HR.out
      simp only at q0 q1
      go_wp2_with fail
      refine (points1_ok s g x y _ HGr.out).mono ?_
      rintro e w2 ⟨rfl, hb2⟩
      have hb3 : Below wr.heap.size wr w2 := HB1.out.trans (hb2.mono (by simp))
      have HR2 := Aside0.mk (Kd.R_below HR.out hb3)
      have HB2 := Aside0.mk (HB.out.trans (hb3.mono HB.out.size))
      have hs2 := HB2.out.size
      clear hb2 hb3 HR HB1 HGr
      go_wp2_with ((with_reducible refine gate_builtin (b := .append) (xs := #[.tmp 14, .tmp 18]) rfl ?_); at_builtin; go_loud (refine Kd.R_append kP (w0 := w) (W := w2) w.heap.size rfl (.tmp 14) (.tmp 18) 44 43 (.agg #[.int .u32 0, .float .f64 0, .float .f64 0]) 24 rfl Try.underlying44 infoP rfl (by decide) (by decide) (.slice A5 acc.length c5) acc (s, x, y) [.int .u32 s, .float .f64 x, .float .f64 y] (fun _ => True) (fun _ => False) rfl rfl ⟨[.int .u32 s], [.float .f64 x, .float .f64 y], rfl, rfl, ⟨[.float .f64 x], [.float .f64 y], rfl, rfl, rfl⟩⟩ (fun z hz => hz.elim) (fun _ _ => trivial) HR2.out HB2.out hs2 hla ?_; intro v1 w3 ho hb3 hg3 hat; clear hg3 hat; have HO3 := Aside0.mk ho; have HB3 := Aside0.mk hb3; clear ho hb3))
      go_roundw
      case rel => exact ⟨k + 1, by go_num, by omega, ⟨by rw [HT.out]; exact HO3.out⟩, HB3⟩
      case measure => simp [intOf]; omega
    · obtain rfl : k = l.length := by omega
      rw [List.take_length] at HR
      obtain ⟨A5, c5, rfl⟩ := Kd.R_slice HR.out
      go_wp2
      go_ret
      exact ⟨_, rfl, HR.out, HB.out⟩
theorem points_ok (s : Int) (A0 : Option Addr) (c0 : Nat) (l : List (Nat × Nat)) (hl : l.length ≤ 1000) (w : World) (hC : kQ.C w A0 l.length l) :
    Calls Try.prog 15 #[.slice A0 l.length c0, .int .u32 s] w fun e w' => ∃ v, e = .returned v ∧ kP.R 43 w' w.heap.size (fun _ => True) v (l.map (fun p => (s, p))) ∧ Below w.heap.size w w' := by
  have hb := below_alloc (Below.refl w.heap.size w) (.cells #[.int .u32 s] 22)
  have H := Aside0.mk (turned_ok s A0 c0 w.heap.size l hl (w.alloc (.cells #[.int .u32 s] 22)) (Kd.C_below hC hb) (heap_alloc_new _ _))
  have HB := Aside0.mk hb
  clear hC hb
  go_enter Try.func15, Try.ntmps15
  go_wp2_with fail
  refine (H.out).mono ?_
  rintro e w2 ⟨v, rfl, hr, hb⟩
  have HB2 := Aside0.mk (HB.out.trans (hb.mono (by simp)))
  have HR2 := Aside0.mk (Kd.R_lower hr (show w.heap.size ≤ (w.alloc (.cells #[.int .u32 s] 22)).heap.size by simp))
  obtain ⟨A5, c5, rfl⟩ := Kd.R_slice hr
  clear hr hb H HB
  rw [List.length_map] at HR2
  go_wp2_with fail
  go_ret
  exact ⟨_, rfl, HR2.out, HB2.out⟩
end Go.Proofs.Ytkcffmnccjemiaa.GD
