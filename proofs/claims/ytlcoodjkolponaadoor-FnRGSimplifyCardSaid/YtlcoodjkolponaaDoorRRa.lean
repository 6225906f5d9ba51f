/-
  Contract of impl.exprs: ranges of columns as the program has them. No condition but that there are at most 1000.
-/
import Derived.Test.YtlcoodjkolponaaDoorPRR0
import Derived.Test.YtlcoodjkolponaaDoorRGc
import Derived.LoopTactic
import Derived.Outline
namespace Go.Proofs.YtlcoodjkolponaaDoor.PRR
open Go.RowKit Go.Proofs.YtlcoodjkolponaaDoorW.PrintWords Go.Proofs.YtlcoodjkolponaaDoorW.PrintLast Go.Proofs.YtlcoodjkolponaaDoorW.PrintMore
open Go.Proofs.YtlcoodjkolponaaDoor.PRG (C cmpC typV expr_ok)
set_option linter.unusedVariables false
set_option linter.unusedSimpArgs false
set_option maxRecDepth 100000
set_option maxHeartbeats 400000

/-- a range of a column, as the program has it: three cells -/
def eC (p : C × C) : List Value := [.iface p.1.ty p.1.pay, .iface p.2.ty p.2.pay, typV]
def kE : Kd (C × C) where
  sz := 3
  E := []
  K := fun _ x cs => cs = eC x
  M := fun _ _ _ x cs => cs = eC x
  K_len := fun h => by rw [h]; rfl
  K_one := fun h u hu => by
    rw [h] at hu
    simp [eC] at hu
    rcases hu with rfl | rfl | rfl <;> rfl
  K_below := fun _ h => h
  K_of_M := fun h => h
  M_mono := fun _ h => h
  M_bound := fun h => h
  M_move := fun _ h => h
  M_lower := fun _ h => h
theorem at_E {w : World} {A : Option Addr} {n : Nat} {xs : List (C × C)} (h : Kd.C kE w A n xs) (i : Nat) (hi : i < n) (hl : i < xs.length) : ∃ ad, A = some ad ∧ w.cell? (ad.add (i * 3)) = some (.iface xs[i].1.ty xs[i].1.pay) ∧ w.cell? ⟨(ad.add (i * 3)).block, (ad.add (i * 3)).off + 1, none⟩ = some (.iface xs[i].2.ty xs[i].2.pay) ∧ w.cell? ⟨(ad.add (i * 3)).block, (ad.add (i * 3)).off + 2, none⟩ = some typV := by
  obtain ⟨ad, c, e, _, hK, hc0⟩ := Kd.C_get h (.bn, .bn) (i : Int) (by omega) (by omega)
  have hc : ∀ j u, c[j]? = some u → w.cell? (ad.add (i * 3 + j)) = some u := hc0
  have hx : xs.getD (i : Int).toNat (.bn, .bn) = xs[i] := by rw [Int.toNat_natCast, List.getD_eq_getElem?_getD, List.getElem?_eq_getElem hl]; rfl
  rw [hx] at hK
  obtain rfl : c = eC xs[i] := hK
  exact ⟨ad, e, hc 0 _ rfl, by rw [← add_field _ _ 1 (by omega)]; exact hc 1 _ rfl, by rw [← add_field _ _ 2 (by omega)]; exact hc 2 _ rfl⟩
/-- a range of numbers as one of cuts -/
def toC (x : S44) : C × C := (C.of x.f0.f0 x.f0.f1, C.of x.f1.f0 x.f1.f1)
theorem info96 : (Tryd.prog.info? 96).map (fun i => (i.zero, i.size, i.bytes)) = some (some (.agg #[.nilIface, .nilIface, .nilIface]), 3, 48) := by kernel_rfl
theorem turned80_ok (A0 : Option Addr) (c0 : Nat) (l : List S44) (hl : l.length ≤ 1000) (w : World) (hC : Kd.C k44 w A0 l.length l) :
    Calls Tryd.prog 80 #[.slice A0 l.length c0, .func (.func 59) #[] #[]] w fun e w' => ∃ v, e = .returned v ∧ Kd.R kE 96 w' w.heap.size (fun _ => True) v (l.map toC) ∧ Below w.heap.size w w' := by
  have HC := Aside0.mk (fun W (h : Below w.heap.size w W) => Kd.C_below hC h)
  clear hC
  go_enter Tryd.func80, Tryd.ntmps80
  go_wp2
  go_loopw [5, 10] (fun t5 t10 wr => ∃ k : Nat, t10 = .int .i64 (k : Int) ∧ k ≤ l.length ∧ Aside0 (Kd.R kE 96 wr w.heap.size (fun _ => True) t5 ((l.take k).map toC)) ∧ Aside0 (Below w.heap.size w wr)) (fun _ t10 _ => l.length - (intOf t10).toNat)
  case atStart => exact ⟨0, rfl, Nat.zero_le _, ⟨Kd.R_nil _ _ _ _ _⟩, ⟨Below.refl _ _⟩⟩
  case round =>
    obtain ⟨k, rfl, hk, HR, HB⟩ := hrel
    rcases Nat.lt_or_ge k l.length with hlt | hge
    · have hat := at_T44 (HC.out wr HB.out) (k : Int) (by omega) (by omega)
      have hx : rd_T44 l (k : Int) = l[k] := by unfold rd_T44; rw [Int.toNat_natCast, List.getD_eq_getElem?_getD, List.getElem?_eq_getElem hlt]; rfl
      rw [hx, Int.toNat_natCast] at hat
      obtain ⟨ad, rfl, g0, g1, g2, g3⟩ := hat
      have HT : Aside0 ((l.take (k + 1)).map toC = (l.take k).map toC ++ [toC l[k]]) := ⟨by rw [List.take_succ_eq_append_getElem hlt, List.map_append]; rfl⟩
      have HE := Aside0.mk (expr_ok l[k].f0.f0 l[k].f0.f1 l[k].f1.f0 l[k].f1.f1)
      have HTC : Aside0 (toC l[k] = (C.of l[k].f0.f0 l[k].f0.f1, C.of l[k].f1.f0 l[k].f1.f1)) := ⟨rfl⟩
      generalize toC l[k] = p at *
      generalize l[k].f0.f0 = x0 at *
      generalize l[k].f0.f1 = x1 at *
      generalize l[k].f1.f0 = x2 at *
      generalize l[k].f1.f1 = x3 at *
      generalize C.of x0 x1 = ca at *
      generalize C.of x2 x3 = cb at *
      clear hx
      have hlen : ((l.take k).map toC).length = k := by rw [List.length_map, List.length_take]; omega
      generalize hacc : (l.take k).map toC = acc at *
      have hla : acc.length ≤ 1000 := by omega
      clear hacc hlen
      have HB1 := Aside0.mk (below_alloc HB.out (.cells #[.int .i64 x0, .int .i64 x1, .int .i64 x2, .int .i64 x3] 44))
      have HBb := Aside0.mk (below_alloc (Below.refl wr.heap.size wr) (.cells #[.int .i64 x0, .int .i64 x1, .int .i64 x2, .int .i64 x3] 44))
      obtain ⟨A5, c5, rfl⟩ := Kd.R_slice HR.out
      go_wp2_with fail
      refine (HE.out _).mono ?_
      rintro e w2 ⟨rfl, hb2⟩
      have hb2' : Below wr.heap.size wr w2 := HBb.out.trans (hb2.mono (by simp))
      have hsz := HB.out.size
      have HR2 := Aside0.mk (Kd.R_below HR.out hb2')
      have HB2 := Aside0.mk (HB.out.trans (hb2'.mono hsz))
      have hs2 := HB2.out.size
      clear hb2 hb2' HR HB1 HBb HE
      go_wp2_with ((with_reducible refine gate_builtin (b := .append) (xs := #[.tmp 14, .tmp 18]) rfl ?_); at_builtin; go_loud (refine Kd.R_append kE (w0 := w) (W := w2) w.heap.size rfl (.tmp 14) (.tmp 18) 86 96 (.agg #[.nilIface, .nilIface, .nilIface]) 48 rfl Tryd.underlying86 info96 rfl (by decide) (by decide) (.slice A5 acc.length c5) acc (ca, cb) (eC (ca, cb)) (fun _ => True) (fun _ => False) rfl rfl rfl (fun z hz => hz.elim) (fun _ _ => trivial) HR2.out HB2.out hs2 (by omega) ?_; intro v1 w3 ho hb3 hg3 hat; clear hg3 hat; have HO3 := Aside0.mk ho; have HB3 := Aside0.mk hb3; clear ho hb3))
      go_roundw
      case rel => exact ⟨k + 1, by go_num, by omega, ⟨by rw [HT.out, HTC.out]; exact HO3.out⟩, HB3⟩
      case measure => simp [intOf]; omega
    · obtain rfl : k = l.length := by omega
      rw [List.take_length] at HR
      obtain ⟨A5, c5, rfl⟩ := Kd.R_slice HR.out
      go_wp2
      go_ret
      exact ⟨_, rfl, HR.out, HB.out⟩
theorem exprs_ok (A0 : Option Addr) (c0 : Nat) (l : List S44) (hl : l.length ≤ 1000) (w : World) (hC : Kd.C k44 w A0 l.length l) :
    Calls Tryd.prog 55 #[.slice A0 l.length c0] w fun e w' => ∃ v, e = .returned v ∧ Kd.R kE 96 w' w.heap.size (fun _ => True) v (l.map toC) ∧ Below w.heap.size w w' := by
  have HT := Aside0.mk (turned80_ok A0 c0 l hl w hC)
  clear hC
  go_enter Tryd.func55, Tryd.ntmps55
  go_wp2_with (go_at_call 80; refine HT.out.mono ?_; rintro e w2 ⟨v, rfl, hr, hb⟩; obtain ⟨A, c, rfl⟩ := Kd.R_slice hr; rw [List.length_map] at hr; have HR := Aside0.mk hr; have HB := Aside0.mk hb; clear hr hb)
  go_ret
  exact ⟨_, rfl, HR.out, HB.out⟩
end Go.Proofs.YtlcoodjkolponaaDoor.PRR
