/-
  A collection of flat geometries: its parts' values. Condition: geFit's.
-/
import Derived.Test.YtkcffmnccjemiaaGDj
namespace Go.Proofs.Ytkcffmnccjemiaa.GD
open Go.RowKit Go.Proofs.YtkcffmnccjemiaaW.PrintWords Go.Proofs.YtkcffmnccjemiaaW.PrintLast Go.Proofs.YtkcffmnccjemiaaW.PrintMore
set_option linter.unusedVariables false
set_option linter.unusedSimpArgs false
set_option maxRecDepth 100000
set_option maxHeartbeats 400000

def kI : Kd (Nat × Value) := Kd.scalar (fun p : Nat × Value => Value.iface p.1 p.2) (fun _ => rfl)
theorem infoI : (Try.prog.info? 37).map (fun i => (i.zero, i.size, i.bytes)) = some (some .nilIface, 1, 16) := by kernel_rfl
abbrev FlatD (y : GeoD) : Prop := Flat y.1 y.2.2.1 y.2.2.2.1 y.2.2.2.2.1
theorem turnedV_ok (A0 : Option Addr) (c0 : Nat) (lg : List GeoD) (hl : lg.length ≤ 5) (hF : ∀ y ∈ lg, FlatD y) (w : World) (hC : kGeo.C w A0 lg.length lg) :
    Calls Try.prog 19 #[.slice A0 lg.length c0, .func (.func 12) #[] #[]] w fun e w' => ∃ v acc, e = .returned v ∧ acc.map (·.1) = lg.map (fun y => typeOf y.1) ∧ kI.R 37 w' w.heap.size (fun _ => True) v acc ∧ Below w.heap.size w w' := by
  have HC := Aside0.mk (fun W (h : Below w.heap.size w W) => Kd.C_below hC h)
  have HF := Aside0.mk hF
  clear hC hF
  go_enter Try.func19, Try.ntmps19
  go_wp2
  go_loopw [5, 10] (fun t5 t10 wr => ∃ (k : Nat) (acc : List (Nat × Value)), t10 = .int .i64 (k : Int) ∧ k ≤ lg.length ∧ Aside0 (acc.map (·.1) = (lg.take k).map (fun y => typeOf y.1)) ∧ Aside0 (kI.R 37 wr w.heap.size (fun _ => True) t5 acc) ∧ Aside0 (Below w.heap.size w wr)) (fun _ t10 _ => lg.length - (intOf t10).toNat)
  case atStart => exact ⟨0, [], rfl, Nat.zero_le _, ⟨by simp⟩, ⟨Kd.R_nil _ _ _ _ _⟩, ⟨Below.refl _ _⟩⟩
  case round =>
    obtain ⟨k, acc, rfl, hk, HA, HR, HB⟩ := hrel
    have hal : acc.length = k := by
      have h := congrArg List.length HA.out
      rw [List.length_map, List.length_map, List.length_take] at h
      omega
    obtain ⟨A5, c5, rfl⟩ := Kd.R_slice HR.out
    rcases Nat.lt_or_ge k lg.length with hlt | hge
    · obtain ⟨ad, g, s', k2, k3, k4, B5, n5, d5, B2, d2, B3, d3, B4, d4, rfl, hx, hLy, g0, g1, g2, g3, g4, g5⟩ := at_geo (HC.out wr HB.out) k hlt
      have hxe : lg[k] = (g, s', k2, k3, k4, B5, n5, d5) := by rw [List.getElem?_eq_getElem hlt] at hx; exact Option.some.inj hx
      have hfl : Flat g k2 k3 k4 := by have h := HF.out _ (List.getElem_mem hlt); rw [hxe] at h; exact h
      have hA := below_alloc (Below.refl wr.heap.size wr) (.cells #[.int .i64 g, .int .u32 s', .slice B2 k2.length d2, .slice B3 k3.length d3, .slice B4 k4.length d4, .slice B5 n5 d5] 28)
      have H1 := Aside0.mk (flatVal_ok g s' B2 B3 B4 B5 d2 d3 d4 n5 d5 k2 k3 k4 _ (hLy.below hA) hfl)
      have HA1 := Aside0.mk hA
      have HT := Aside0.mk (show (lg.take (k + 1)).map (fun y => typeOf y.1) = (lg.take k).map (fun y => typeOf y.1) ++ [typeOf g] by rw [List.take_succ_eq_append_getElem hlt, List.map_append, hxe]; rfl)
      have hla : (acc.length + 1) * 16 ≤ 140737488355328 := by omega
      clear hx hxe hfl hLy hA hal
      generalize typeOf g = T at *
      generalize k2.length = e2 at *
      generalize k3.length = e3 at *
      generalize k4.length = e4 at *
      go_wp2_with fail
      refine H1.out.mono ?_
      rintro e w2 ⟨⟨u, rfl⟩, hb2⟩
      have hb3 : Below wr.heap.size wr w2 := HA1.out.trans (hb2.mono HA1.out.size)
      have HR2 := Aside0.mk (Kd.R_below HR.out hb3)
      have HB2 := Aside0.mk (below_step HB.out hb3)
      have hs2 := HB2.out.size
      clear hb2 hb3 HR H1 HA1
      go_wp2_with ((with_reducible refine gate_builtin (b := .append) (xs := #[.tmp 14, .tmp 18]) rfl ?_); at_builtin; go_loud (refine Kd.R_append kI (w0 := w) (W := w2) w.heap.size rfl (.tmp 14) (.tmp 18) 55 37 .nilIface 16 rfl Try.underlying55 infoI rfl (by decide) (by decide) (.slice A5 acc.length c5) acc (T, u) [.iface T u] (fun _ => True) (fun _ => False) rfl rfl rfl (fun z hz => hz.elim) (fun _ _ => trivial) HR2.out HB2.out hs2 hla ?_; intro v1 w3 ho hb3 hg3 hat; clear hg3 hat; have HO3 := Aside0.mk ho; have HB3 := Aside0.mk hb3; clear ho hb3))
      go_roundw
      case rel => exact ⟨k + 1, _, by go_num, by omega, ⟨by rw [HT.out, List.map_append, HA.out]; rfl⟩, HO3, HB3⟩
      case measure => simp [intOf]; omega
    · obtain rfl : k = lg.length := by omega
      rw [List.take_length] at HA
      go_wp2
      go_ret
      exact ⟨_, _, rfl, HA.out, HR.out, HB.out⟩
end Go.Proofs.Ytkcffmnccjemiaa.GD
