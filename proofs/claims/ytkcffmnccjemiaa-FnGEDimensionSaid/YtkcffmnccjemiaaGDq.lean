/-
  impl.GEDimension of a collection, and of an empty one. Condition: geFit's.
-/
import Derived.Test.YtkcffmnccjemiaaGDn
namespace Go.Proofs.Ytkcffmnccjemiaa.GD
open Go.RowKit Go.Proofs.YtkcffmnccjemiaaW.PrintWords Go.Proofs.YtkcffmnccjemiaaW.PrintLast Go.Proofs.YtkcffmnccjemiaaW.PrintMore
set_option linter.unusedVariables false
set_option linter.unusedSimpArgs false
set_option maxRecDepth 100000
set_option maxHeartbeats 400000

theorem implColl_ok (s : Int) (A2 A3 A4 A5 : Option Addr) (n2 c2 n3 c3 n4 c4 c5 : Nat) (lg : List GeoD) (h1 : 1 ≤ lg.length) (hl : lg.length ≤ 5) (hF : ∀ y ∈ lg, FlatD y) (w : World) (hG : kGeo.C w A5 lg.length lg) :
    Calls Try.prog 6 #[gv 7 s A2 A3 A4 A5 n2 c2 n3 c3 n4 c4 lg.length c5] w fun e w' => e = .returned (.tuple #[.int .i64 (most 0 (lg.map (·.1))), .bool true]) ∧ Below w.heap.size w w' := by
  have hB := below_alloc (Below.refl w.heap.size w) (go 7 s A2 A3 A4 A5 n2 c2 n3 c3 n4 c4 lg.length c5)
  have H := Aside0.mk (val7_ok s A2 A3 A4 A5 n2 c2 n3 c3 n4 c4 c5 lg hl hF _ (Kd.C_below hG hB))
  have H2 := Aside0.mk (fun (c : Nat) (A : Option Addr) (n : Nat) (acc : List (Nat × Value)) (ha : acc.map (·.1) = lg.map (fun y => typeOf y.1)) (hn : n = lg.length) W hC => dim57_ok s c A n acc (lg.map (·.1)) (fun k hk => by
    obtain ⟨y, hy, rfl⟩ := List.mem_map.1 hk
    exact (hF y hy).kind) (by rw [ha, List.map_map]; rfl) (by rw [hn, List.length_map]) (by omega) W hC)
  have HB := Aside0.mk hB
  generalize most 0 (lg.map (·.1)) = M at *
  generalize hml : lg.length = m at *
  clear hG hB hF
  go_enter Try.func6, Try.ntmps6
  go_wp2_with fail
  refine (H.out).mono ?_
  rintro e w2 ⟨⟨A, n, c, acc, rfl, hn, ha, hC⟩, hb⟩
  have HB2 := Aside0.mk (below_step HB.out hb)
  have H3 := Aside0.mk (H2.out c A n acc ha hn w2 hC)
  clear hb H HB H2 ha hn hC
  go_wp2_with fail
  refine (H3.out).mono ?_
  rintro e w3 ⟨rfl, hb⟩
  have HB3 := Aside0.mk (below_step HB2.out hb)
  clear hb H3 HB2
  go_wp2_with fail
  go_ret2
  exact ⟨rfl, HB3.out⟩
theorem implNone_ok (w : World) :
    Calls Try.prog 6 #[gv 7 0 none none none none 0 0 0 0 0 0 0 0] w fun e w' => e = .returned (.tuple #[.int .i64 0, .bool false]) ∧ Below w.heap.size w w' := by
  have hB := below_alloc (Below.refl w.heap.size w) (go 7 0 none none none none 0 0 0 0 0 0 0 0)
  have H := Aside0.mk (val7_ok 0 none none none none 0 0 0 0 0 0 0 [] (by simp) (by simp) (w.alloc (go 7 0 none none none none 0 0 0 0 0 0 0 0)) (Kd.C_nil _ _))
  have H2 := Aside0.mk (fun (c : Nat) (A : Option Addr) W => dim57n_ok 0 c A W)
  have HB := Aside0.mk hB
  clear hB
  go_enter Try.func6, Try.ntmps6
  go_wp2_with fail
  refine (H.out).mono ?_
  rintro e w2 ⟨⟨A, n, c, acc, rfl, hn, ha, hC⟩, hb⟩
  obtain rfl : n = 0 := hn
  have HB2 := Aside0.mk (below_step HB.out hb)
  clear hb H HB ha hC
  go_wp2_with fail
  refine (H2.out _ _ _).mono ?_
  rintro e w3 ⟨rfl, hb⟩
  have HB3 := Aside0.mk (below_step HB2.out hb)
  clear hb H2 HB2
  go_wp2_with fail
  go_ret2
  exact ⟨rfl, HB3.out⟩
end Go.Proofs.Ytkcffmnccjemiaa.GD
