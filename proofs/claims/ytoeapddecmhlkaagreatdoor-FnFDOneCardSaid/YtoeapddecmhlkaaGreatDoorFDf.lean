/-
  Contracts of impl.FDRun and fdLast at one step of at most one row. Condition: columns from 1 to 64; math/bits.deBruijn64tab as laid.
-/
import Derived.Test.YtoeapddecmhlkaaGreatDoorFDe
namespace Go.Proofs.YtoeapddecmhlkaaGreatDoor.FD
open Go.RowKit Go.Proofs.YtoeapddecmhlkaaGreatDoorW.PrintWords Go.Proofs.YtoeapddecmhlkaaGreatDoorW.PrintLast Go.Proofs.YtoeapddecmhlkaaGreatDoorW.PrintMore
set_option linter.unusedVariables false
set_option linter.unusedSimpArgs false
set_option maxRecDepth 100000
set_option maxHeartbeats 400000

theorem news_of {W : World} {g t : Nat} {news : List Value} (h : W.heap[g]? = some (.cells news.toArray t (0, 0))) (j : Nat) (v : Value) (hj : news[j]? = some v) : W.cell? ⟨g, j, none⟩ = some v := by
  rw [Lib.cell_of_heap h]
  simpa using hj
theorem cells9z {W : World} {g t : Nat} {a0 a1 a2 a3 a4 a5 a6 a7 a8 : Value} {zs : Array Value} (q : W.heap[g]? = some (.cells (#[a0, a1, a2, a3, a4, a5, a6, a7, a8] ++ zs) t (0, 0))) : W.cell? ⟨g, 0, none⟩ = some a0 ∧ W.cell? ⟨g, 1, none⟩ = some a1 ∧ W.cell? ⟨g, 2, none⟩ = some a2 ∧ W.cell? ⟨g, 3, none⟩ = some a3 ∧ W.cell? ⟨g, 4, none⟩ = some a4 ∧ W.cell? ⟨g, 5, none⟩ = some a5 ∧ W.cell? ⟨g, 6, none⟩ = some a6 ∧ W.cell? ⟨g, 7, none⟩ = some a7 ∧ W.cell? ⟨g, 8, none⟩ = some a8 := by
  refine ⟨?_, ?_, ?_, ?_, ?_, ?_, ?_, ?_, ?_⟩ <;> (rw [Lib.cell_of_heap q, Array.getElem?_append_left (by simp)]; rfl)
/-- Contract of FDRun. -/
theorem run_ok (q : Nat) (A1 A2 : Option Addr) (c1 c2 : Nat) (l1 l2 : List Int) (w : World) (hg : Glob w) (h : Step1 w q A1 A2 c1 c2 l1 l2) :
    Calls Tryz.prog 9 #[.slice (some ⟨q, 0, none⟩) 1 1] w fun e w' => ∃ p cp vs, e = .returned (.slice (some ⟨p, 0, none⟩) 1 cp) ∧ (∃ zs : Array Value, w'.heap[p]? = some (.cells (vs.toArray ++ zs) 30 (0, 0))) ∧ Seen w' w.heap.size vs (colsOf (mk l1)) ∧ Below w.heap.size w w' := by
  have H := Aside0.mk (fun W (hb : Below w.heap.size w W) => do_ok A1 A2 c1 c2 l1 l2 W (h.2.1.below hb) (h.2.2.below hb))
  have HQ := Aside0.mk h.1
  have HG := Aside0.mk (fun W (hb : Below w.heap.size w W) => hg.later hb)
  have HS := Aside0.mk (fun (W : World) (hW : Glob W) (p cp f gk ck : Nat) (zs : Array Value) hp (hD : Dep W f gk ck (mk l1) (mk l2)) => seen_ok p cp f gk ck (mk l1) (mk l2) zs (mk_big l1 h.2.1.2.1) (mk_big l2 h.2.2.2.1) W hW hp hD)
  generalize mk l1 = m1 at *
  generalize mk l2 = m2 at *
  generalize l1.length = n1 at *
  generalize l2.length = n2 at *
  clear h hg
  go_enter Tryz.func9, Tryz.ntmps9
  go_wp2
  go_loopw [3, 4, 9] (fun t3 t4 t9 wr => ((t9 = .int .i64 0 ∧ t3 = .slice none 0 0 ∧ t4 = .slice none 0 0) ∨ (t9 = .int .i64 1 ∧ ∃ p cp vs, t4 = .slice (some ⟨p, 0, none⟩) 1 cp ∧ Aside0 (∃ zs : Array Value, wr.heap[p]? = some (.cells (vs.toArray ++ zs) 30 (0, 0))) ∧ Aside0 (Seen wr w.heap.size vs (colsOf m1)))) ∧ Aside0 (Below w.heap.size w wr)) (fun _ _ t9 _ => 1 - (intOf t9).toNat)
  case atStart => exact ⟨.inl ⟨rfl, rfl, rfl⟩, ⟨Below.refl _ _⟩⟩
  case round =>
    obtain ⟨⟨rfl, rfl, rfl⟩ | ⟨rfl, p, cp, vs, rfl, HZ, HV⟩, HB⟩ := hrel
    · have hq := (HB.out.block _ (blk_lt HQ.out)).trans HQ.out
      obtain ⟨r0, r1, r2, r3, r4, r5, r6, r7⟩ := cells8 hq
      have HA := Aside0.mk (below_alloc (Below.refl wr.heap.size wr) (o27 A1 A2 n1 c1 n2 c2))
      have HB1 := Aside0.mk (below_step HB.out HA.out)
      have H2 := Aside0.mk (H.out _ HB1.out)
      have ltq := blk_lt hq
      clear hq H HB HQ
      go_wp2_with fail
      refine (H2.out).mono ?_
      rintro e w2 ⟨p, cp, f, gk, ck, rfl, ⟨zs, hz⟩, hd, hb⟩
      have HBz := Aside0.mk (below_step HB1.out hb)
      have H3 := Aside0.mk (HS.out w2 (HG.out _ HBz.out) p cp f gk ck zs hz hd)
      clear hz hd hb H2 HB1 HA r0 r1 r2 r3 r4 r5 r6 r7 HG HS
      go_wp2_with fail
      refine (H3.out).mono ?_
      rintro e w3 ⟨A, n1, k1, A2, n2, k2, A3, n3, k3, A5, n5, k5, A6, n6, k6, rfl, en1, ⟨base, hbs, hC⟩, hb⟩
      have HB3 := Aside0.mk (below_step HBz.out hb)
      have HV := Aside0.mk (show Seen w3 w.heap.size [.slice A n1 k1, .slice A2 n2 k2, .slice A3 n3 k3, .slice none 0 0, .slice A5 n5 k5, .slice A6 n6 k6, .bool true, .bool false, .bool true] (colsOf m1) from ⟨A, n1, k1, A2, n2, k2, A3, n3, k3, A5, n5, k5, A6, n6, k6, rfl, en1, base, Nat.le_trans HBz.out.size hbs, hC⟩)
      clear hb en1 hbs hC HBz H3
      go_wp2_with ((with_reducible refine gate_builtin (b := .append) (xs := #[.tmp 16, .tmp 19]) rfl ?_); at_builtin; go_loud (refine append_nil_list rfl (.tmp 16) (.tmp 19) 38 30 _ 9 152 rfl Tryz.underlying38 info30 (by decide) w3.heap.size 1 (w3.heap.size + 1) (by simp) [.slice A n1 k1, .slice A2 n2 k2, .slice A3 n3 k3, .slice none 0 0, .slice A5 n5 k5, .slice A6 n6 k6, .bool true, .bool false, .bool true] rfl (news_of (heap_alloc_new w3 _)) rfl rfl ?_; intro c' zs2 Z hz hn; have HZ := Aside0.mk hn; have hb4 := (below_alloc (Below.refl w3.heap.size w3) (.cells #[.slice A n1 k1, .slice A2 n2 k2, .slice A3 n3 k3, .slice none 0 0, .slice A5 n5 k5, .slice A6 n6 k6, .bool true, .bool false, .bool true] 30)).trans (hz.mono (Nat.le_succ w3.heap.size)); have HVZ := Aside0.mk (HV.out.below hb4 (Nat.le_refl _)); have HB4 := Aside0.mk (below_step HB3.out hb4); clear hz hn hb4 HV HB3; generalize w3.heap.size + 1 = B at *))
      go_roundw
      case rel => exact ⟨.inr ⟨rfl, _, _, _, rfl, ⟨_, HZ.out⟩, HVZ⟩, HB4⟩
      case measure => decide
    · go_wp2
      go_ret
      exact ⟨_, _, _, rfl, HZ.out, HV.out, HB.out⟩
/-- Contract of fdLast. -/
theorem fdLast_ok (q : Nat) (A1 A2 : Option Addr) (c1 c2 : Nat) (l1 l2 : List Int) (w : World) (hg : Glob w) (h : Step1 w q A1 A2 c1 c2 l1 l2) :
    Calls Tryz.prog 5 #[.slice (some ⟨q, 0, none⟩) 1 1] w fun e w' => ∃ vs, e = .returned (.tuple #[.agg vs.toArray, .bool true]) ∧ Seen w' w.heap.size vs (colsOf (mk l1)) ∧ Below w.heap.size w w' := by
  have hB := below_alloc (Below.refl w.heap.size w) (.cells #[.slice none 0 0, .slice none 0 0, .slice none 0 0, .slice none 0 0, .slice none 0 0, .slice none 0 0, .bool false, .bool false, .bool false] 30)
  have HN := Aside0.mk (heap_alloc_new w (.cells #[.slice none 0 0, .slice none 0 0, .slice none 0 0, .slice none 0 0, .slice none 0 0, .slice none 0 0, .bool false, .bool false, .bool false] 30))
  have H := Aside0.mk (run_ok q A1 A2 c1 c2 l1 l2 _ (hg.later hB) (h.below hB))
  have HB := Aside0.mk hB
  generalize colsOf (mk l1) = L at *
  clear hg h hB
  go_enter Tryz.func5, Tryz.ntmps5
  go_wp2_with fail
  refine (H.out).mono ?_
  rintro e w2 ⟨p, cp, vs, rfl, ⟨zs, hz⟩, hV, hb⟩
  obtain ⟨A, n1, k1, A2, n2, k2, A3, n3, k3, A5, n5, k5, A6, n6, k6, rfl, en1, base, hbs, hC⟩ := hV
  have hz : w2.heap[p]? = some (.cells (#[.slice A n1 k1, .slice A2 n2 k2, .slice A3 n3 k3, .slice none 0 0, .slice A5 n5 k5, .slice A6 n6 k6, .bool true, .bool false, .bool true] ++ zs) 30 (0, 0)) := hz
  subst en1
  obtain ⟨x0, x1, x2, x3, x4, x5, x6, x7, x8⟩ := cells9z hz
  have hN := (hb.block _ (blk_lt HN.out)).trans HN.out
  obtain ⟨y0, y1, y2, y3, y4, y5, y6, y7, y8⟩ := cells9 hN
  have f0 := Lib.frozen_of_heap hN 0
  have f1 := Lib.frozen_of_heap hN 1
  have f2 := Lib.frozen_of_heap hN 2
  have f3 := Lib.frozen_of_heap hN 3
  have f4 := Lib.frozen_of_heap hN 4
  have f5 := Lib.frozen_of_heap hN 5
  have f6 := Lib.frozen_of_heap hN 6
  have f7 := Lib.frozen_of_heap hN 7
  have f8 := Lib.frozen_of_heap hN 8
  have HB2 := Aside0.mk (below_step HB.out hb)
  have HNN := Aside0.mk hN
  have ltn : w.heap.size < w2.heap.size := blk_lt hN
  have hlb : w.heap.size < base := by simp at hbs; omega
  have HR := Aside0.mk hC
  clear hb hz hN HN HB H hC hbs
  go_wp2
  have HS := sets9 (b := w.heap.size) (Still.refl _ w2) HNN.out (.slice A L.length k1) (.slice A2 n2 k2) (.slice A3 n3 k3) (.slice none 0 0) (.slice A5 n5 k5) (.slice A6 n6 k6) (.bool true) (.bool false) (.bool true)
  have hF := HS.2
  have HBF := Aside0.mk (HB2.out.trans (HS.1.below (B := w.heap.size) (Nat.le_of_lt ltn) (fun k hk => Nat.le_of_eq (Eq.symm hk))))
  have HRF := Kd.R_step (Kd.R_bound HR.out) (w1 := (((((((((w2.setCell ⟨w.heap.size, 0, none⟩ (.slice A L.length k1)).setCell ⟨w.heap.size, 1, none⟩ (.slice A2 n2 k2)).setCell ⟨w.heap.size, 2, none⟩ (.slice A3 n3 k3)).setCell ⟨w.heap.size, 3, none⟩ (.slice none 0 0)).setCell ⟨w.heap.size, 4, none⟩ (.slice A5 n5 k5)).setCell ⟨w.heap.size, 5, none⟩ (.slice A6 n6 k6)).setCell ⟨w.heap.size, 6, none⟩ (.bool true)).setCell ⟨w.heap.size, 7, none⟩ (.bool false)).setCell ⟨w.heap.size, 8, none⟩ (.bool true))) (fun k ho _ => sets9_ne (by have := ho.2.1; omega) (.slice A L.length k1) (.slice A2 n2 k2) (.slice A3 n3 k3) (.slice none 0 0) (.slice A5 n5 k5) (.slice A6 n6 k6) (.bool true) (.bool false) (.bool true))
  have HRG := Aside0.mk (Kd.R_mono HRF (fun _ _ => trivial))
  clear HRF HS HR HB2 HNN x0 x1 x2 x3 x4 x5 x6 x7 x8 y0 y1 y2 y3 y4 y5 y6 y7 y8 f0 f1 f2 f3 f4 f5 f6 f7 f8
  generalize (((((((((w2.setCell ⟨w.heap.size, 0, none⟩ (.slice A L.length k1)).setCell ⟨w.heap.size, 1, none⟩ (.slice A2 n2 k2)).setCell ⟨w.heap.size, 2, none⟩ (.slice A3 n3 k3)).setCell ⟨w.heap.size, 3, none⟩ (.slice none 0 0)).setCell ⟨w.heap.size, 4, none⟩ (.slice A5 n5 k5)).setCell ⟨w.heap.size, 5, none⟩ (.slice A6 n6 k6)).setCell ⟨w.heap.size, 6, none⟩ (.bool true)).setCell ⟨w.heap.size, 7, none⟩ (.bool false)).setCell ⟨w.heap.size, 8, none⟩ (.bool true)) = Z at *
  obtain ⟨y0, y1, y2, y3, y4, y5, y6, y7, y8⟩ := cells9 hF
  refine bodyPost_ret (v := .tuple #[.agg #[.slice A L.length k1, .slice A2 n2 k2, .slice A3 n3 k3, .slice none 0 0, .slice A5 n5 k5, .slice A6 n6 k6, .bool true, .bool false, .bool true], .bool true]) ?_ rfl ⟨[.slice A L.length k1, .slice A2 n2 k2, .slice A3 n3 k3, .slice none 0 0, .slice A5 n5 k5, .slice A6 n6 k6, .bool true, .bool false, .bool true], rfl, ⟨_, _, _, _, _, _, _, _, _, _, _, _, _, _, _, rfl, rfl, _, Nat.le_of_lt hlb, HRG.out⟩, HBF.out⟩
  simp [results, Tryz.results5, go_sem, y0, y1, y2, y3, y4, y5, y6, y7, y8]
end Go.Proofs.YtoeapddecmhlkaaGreatDoor.FD
