/-
  An operation taken first; rows of rows; contract of impl.turned over ranges, the way back. Condition: at most 1000 ranges.
-/
import Derived.Test.YtlcoodjkolponaaDoorRSp
import Derived.Test.YtlcoodjkolponaaDoorRGg
namespace Go.Proofs.YtlcoodjkolponaaDoor.PRR
open Go.RowKit Go.Proofs.YtlcoodjkolponaaDoorW.PrintWords Go.Proofs.YtlcoodjkolponaaDoorW.PrintLast Go.Proofs.YtlcoodjkolponaaDoorW.PrintMore
open Go.Proofs.YtlcoodjkolponaaDoor.PRG (C cmpC typV colOf_ok)
set_option linter.unusedVariables false
set_option linter.unusedSimpArgs false
set_option maxRecDepth 100000
set_option maxHeartbeats 1000000

section
variable {P : Program} {md : Region.Mode} {ops : Array Oper} {Q : Exit → Act → World → Prop} {S : World → Prop}
/-- An operation taken first, its place by name. -/
theorem take_ {i : Nat} {oi : Oper} {N : Option Tmp} {v : Value} {fuel : Nat} {listed : Array Bool} {a : Act} {w : World} (hi : ops[i]? = some oi)
    (hs : Region.noSelect ops = true) (hf : Region.free md ops listed i = true) (hr : (Region.ready md ops listed).contains i = true)
    (hQ : ∀ c a w, Q (.panic c) (a.put oi.dst v) w → Q (.panic c) a w) (hN : oi.dst = N) (hy : YieldsIf P ops S oi v a) (hS : S w)
    (h : wpAnyH P md ops Q S fuel (listed.setIfInBounds i true) (a.put N v) w) : wpAnyH P md ops Q S (fuel + 1) listed a w := by
  subst hN
  exact wpAnyH_take hi hs hf hr hQ hy hS h
end
/-- An element of a row of rows. -/
theorem at_rows {α : Type} {d : Kd α} {q : Nat} {w : World} {A : Option Addr} {n : Nat} {xs : List (List α)} (h : Kd.C (Kd.slice q d) w A n xs) (i : Nat) (hi : i < n) (hl : i < xs.length) :
    ∃ ad A0 c0, A = some ad ∧ w.cell? (ad.add i) = some (.slice A0 xs[i].length c0) ∧ xs[i].length ≤ c0 ∧ d.C w A0 xs[i].length xs[i] := by
  obtain ⟨ad, c, e, _, hK, hc0⟩ := Kd.C_get h ([] : List α) (i : Int) (by omega) (by omega)
  have hc : ∀ j u, c[j]? = some u → w.cell? (ad.add (i * 1 + j)) = some u := hc0
  rw [show xs.getD (i : Int).toNat [] = xs[i] by rw [Int.toNat_natCast, List.getD_eq_getElem?_getD, List.getElem?_eq_getElem hl]; rfl] at hK
  obtain ⟨A0, c0, rfl, l0, g0⟩ := hK
  exact ⟨ad, A0, c0, e, by have hq := hc 0 _ rfl; rwa [Nat.mul_one, Nat.add_zero] at hq, l0, g0⟩
/-- A range of the program's as one of the statement's. -/
def back (p : C × C) : S44 := ⟨⟨p.1.kind, p.1.key⟩, ⟨p.2.kind, p.2.key⟩⟩
theorem of_back {k x : Int} (h : Fine k x) : (C.of k x).kind = k ∧ (C.of k x).key = x := by
  obtain ⟨h0, h1, h2, h3, h4⟩ := h
  unfold C.of
  by_cases e0 : k = 0
  · subst e0; rw [if_pos rfl]; exact ⟨rfl, (h4 (by omega) (by omega)).symm⟩
  · rw [if_neg e0]
    by_cases e1 : k = 1
    · subst e1; rw [if_pos rfl]; exact ⟨rfl, (h4 (by omega) (by omega)).symm⟩
    · rw [if_neg e1]
      by_cases e2 : k = 2
      · subst e2; rw [if_pos rfl]; exact ⟨rfl, rfl⟩
      · rw [if_neg e2]
        by_cases e3 : k = 3
        · subst e3; rw [if_pos rfl]; exact ⟨rfl, rfl⟩
        · rw [if_neg e3]
          exact ⟨show (4 : Int) = k by omega, (h4 e2 e3).symm⟩
theorem back_toC {x : S44} (h : FullS x) : back (toC x) = x := by
  obtain ⟨⟨a, b⟩, ⟨c, d⟩⟩ := x
  have p := of_back h.lo
  have q := of_back h.hi
  unfold back toC
  simp only at p q ⊢
  rw [p.1, p.2, q.1, q.2]
theorem turned81_ok (A0 : Option Addr) (c0 : Nat) (l : List S44) (hl : l.length ≤ 1000) (hf : ∀ x ∈ l, FullS x) (w : World) (hC : Kd.C kE w A0 l.length (l.map toC)) :
    Calls Tryd.prog 81 #[.slice A0 l.length c0, .func (.func 69) #[] #[]] w fun e w' => ∃ v, e = .returned v ∧ Kd.R k44 44 w' w.heap.size (fun _ => True) v l ∧ Below w.heap.size w w' := by
  have HC := Aside0.mk (fun W (h : Below w.heap.size w W) => Kd.C_below hC h)
  have HX := Aside0.mk hf
  clear hC hf
  go_enter Tryd.func81, Tryd.ntmps81
  go_wp2
  go_loopw [5, 10] (fun t5 t10 wr => ∃ k : Nat, t10 = .int .i64 (k : Int) ∧ k ≤ l.length ∧ Aside0 (Kd.R k44 44 wr w.heap.size (fun _ => True) t5 (l.take k)) ∧ Aside0 (Below w.heap.size w wr)) (fun _ t10 _ => l.length - (intOf t10).toNat)
  case atStart => exact ⟨0, rfl, Nat.zero_le _, ⟨Kd.R_nil _ _ _ _ _⟩, ⟨Below.refl _ _⟩⟩
  case round =>
    obtain ⟨k, rfl, hk, HR, HB⟩ := hrel
    rcases Nat.lt_or_ge k l.length with hlt | hge
    · obtain ⟨ad, rfl, g0, g1, g2⟩ := at_E (HC.out wr HB.out) k hlt (by rw [List.length_map]; exact hlt)
      have hb := back_toC (HX.out _ (List.getElem_mem hlt))
      rw [List.getElem_map] at g0 g1
      have HT : Aside0 (l.take (k + 1) = l.take k ++ [l[k]]) := ⟨by rw [List.take_succ_eq_append_getElem hlt]⟩
      have hlen : (l.take k).length = k := by rw [List.length_take]; omega
      rw [← hb] at HT
      generalize toC l[k] = p at *
      obtain ⟨p1, p2⟩ := p
      generalize hacc : l.take k = acc at *
      have hla : (acc.length + 1) * 32 ≤ 140737488355328 := by omega
      clear hacc hlen hb
      have HE := Aside0.mk (colOf_ok p1 p2)
      have HB1 := Aside0.mk (below_alloc HB.out (.cells #[.iface p1.ty p1.pay, .iface p2.ty p2.pay, typV] 96))
      have HBb := Aside0.mk (below_alloc (Below.refl wr.heap.size wr) (.cells #[.iface p1.ty p1.pay, .iface p2.ty p2.pay, typV] 96))
      obtain ⟨A5, c5, rfl⟩ := Kd.R_slice HR.out
      go_wp2_with fail
      refine (HE.out _).mono ?_
      rintro e w2 ⟨rfl, hb2⟩
      have hb2' : Below wr.heap.size wr w2 := HBb.out.trans (hb2.mono (by simp))
      have HR2 := Aside0.mk (Kd.R_below HR.out hb2')
      have HB2 := Aside0.mk (below_step HB.out hb2')
      have hs2 := HB2.out.size
      clear hb2 hb2' HR HB1 HBb HE
      go_wp2_with ((with_reducible refine gate_builtin (b := .append) (xs := #[.tmp 14, .tmp 18]) rfl ?_); at_builtin; go_loud (refine Kd.R_append k44 (w0 := w) (W := w2) w.heap.size rfl (.tmp 14) (.tmp 18) 40 44 (.agg #[.int .i64 0, .int .i64 0, .int .i64 0, .int .i64 0]) 32 rfl Tryd.underlying40 info44 rfl (by decide) (by decide) (.slice A5 acc.length c5) acc (back (p1, p2)) [.int .i64 p1.kind, .int .i64 p1.key, .int .i64 p2.kind, .int .i64 p2.key] (fun _ => True) (fun _ => False) rfl rfl (k44_mkM _ _ _ (back (p1, p2))) (fun z hz => hz.elim) (fun _ _ => trivial) HR2.out HB2.out hs2 hla ?_; intro v1 w3 ho hb3 hg3 hat; clear hg3 hat; have HO3 := Aside0.mk ho; have HB3 := Aside0.mk hb3; clear ho hb3))
      go_roundw
      case rel => exact ⟨k + 1, by go_num, by omega, ⟨by rw [HT.out]; exact HO3.out⟩, HB3⟩
      case measure => simp [intOf]; omega
    · obtain rfl : k = l.length := by omega
      rw [List.take_length] at HR
      obtain ⟨A5, c5, rfl⟩ := Kd.R_slice HR.out
      go_wp2
      go_ret
      exact ⟨_, rfl, HR.out, HB.out⟩
end Go.Proofs.YtlcoodjkolponaaDoor.PRR
