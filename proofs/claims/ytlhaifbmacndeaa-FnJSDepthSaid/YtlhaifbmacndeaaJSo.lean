/-
  Contract of impl.Node.value at an object. Condition: as many names as items, no name twice; the contract at the items.
-/
import Derived.Test.YtlhaifbmacndeaaJSv
import Derived.ChangeMaps4
namespace Go.Proofs.Ytlhaifbmacndeaa.PJS
open Go.RowKit Go.Proofs.YtlhaifbmacndeaaW.PrintWords Go.Proofs.YtlhaifbmacndeaaW.PrintLast Go.Proofs.YtlhaifbmacndeaaW.PrintMore
set_option linter.unusedVariables false
set_option linter.unusedSimpArgs false
set_option maxRecDepth 100000
set_option maxHeartbeats 400000

def putO (w : World) (r : Nat) (o : Obj) : World := { w with heap := w.heap.setIfInBounds r o }
theorem putO_at {w : World} {r : Nat} {o o1 : Obj} (h : w.heap[r]? = some o1) : (putO w r o).heap[r]? = some o := by
  have hlt : r < w.heap.size := blk_lt h
  simp [putO, hlt]
theorem putO_other {w : World} {r k : Nat} {o : Obj} (h : k ≠ r) : (putO w r o).heap[k]? = w.heap[k]? := by
  simp [putO, Array.getElem?_setIfInBounds, Ne.symm h]
theorem putO_below {B : Nat} {w0 w : World} {r : Nat} (h : Below B w0 w) (hr : B ≤ r) (o : Obj) : Below B w0 (putO w r o) :=
  ⟨h.os, h.tape, h.output, by simpa [putO] using h.size, fun k hk => (putO_other (by omega)).trans (h.block k hk)⟩
theorem findNow_none (s : ByteArray) : ∀ (l : List MapEntry) (i : Nat), (∀ e ∈ l, ∃ t : ByteArray, e.key = .string t ∧ t ≠ s) → Instr.findNow .string (.string s) l i = some none
  | [], i, _ => rfl
  | e :: l, i, h => by
    obtain ⟨t, ht, hne⟩ := h e List.mem_cons_self
    have hb : (s == t) = false := by
      cases hc : s == t with
      | false => rfl
      | true => exact absurd ((MapKept.bytes_beq s t).1 hc).symm hne
    unfold Instr.findNow
    simp only [ht, Instr.sameNow, hb]
    exact findNow_none s l (i + 1) (fun e he => h e (List.mem_cons_of_mem _ he))
theorem mapUp (W : World) (r : Nat) (es : Array MapEntry) (s : ByteArray) (v : Value) (hh : W.heap[r]? = some (.map es es.size)) (hne : ∀ e ∈ es.toList, ∃ t : ByteArray, e.key = .string t ∧ t ≠ s) :
    (Instr.mapUpdate 71 (.map (some r)) (.string s) v).run Try.prog W = .ok () (putO W r (.map (es.push { key := .string s, val := v, born := es.size }) (es.size + 1))) := by
  have hf := findNow_none s es.toList 0 hne
  have hu : Try.prog.underlying 71 = some (.map 9 20) := by kernel_rfl
  have hu9 : Try.prog.underlying 9 = some .string := by kernel_rfl
  have hkey : MapKept.IsKey .string (.string s) := trivial
  simp [Instr.mapUpdate, run_underlying hu, MapKept.run_getObj_map hh, MapKept.run_checkKey hu9 hkey, MapKept.run_findKey hu9 hf, MapKept.run_setObj_map _ hh, Result.andThen, putO]
theorem makeM (w : World) : (Instr.makeMap 71 none).run Try.prog w = .ok (.map (some w.heap.size)) (w.alloc (.map #[] 0)) := by kernel_rfl

def VaPost (x : S33) (w : World) (e : Ending) (w' : World) : Prop := ∃ v : IV, e = .returned v.val ∧ Val w' (fun k => w.heap.size ≤ k) v.val x ∧ Below w.heap.size w w'
theorem va_obj (x : S33) (h5 : x.f0 = 5) (hl : x.f4.length ≤ 4) (hn : x.f3.length = x.f4.length) (hd : x.f3.Nodup) (ih : ∀ y ∈ x.f4, VaOk y) : VaOk x := by
  intro A3 c3 A4 c4 w hC3 hc3 hC hc4
  obtain ⟨K, n, s, ns, l⟩ := x
  simp only at *
  subst h5
  have HC := Aside0.mk (fun W (h : Below w.heap.size w W) => Kd.C_below hC h)
  have HN := Aside0.mk (fun W (h : Below w.heap.size w W) => Kd.reads_of_C (d := ByteArray.empty) (Kd.C_below hC3 h))
  have HI := Aside0.mk ih
  have HD := Aside0.mk hd
  have hb0 := below_alloc (Below.refl w.heap.size w) (.cells #[.int .i64 5, .int .u64 n, .string s, .slice A3 ns.length c3, .slice A4 l.length c4] 33)
  have hx0 := heap_alloc_new w (.cells #[.int .i64 5, .int .u64 n, .string s, .slice A3 ns.length c3, .slice A4 l.length c4] 33)
  have hM := makeM
  clear hC hC3 ih hd
  have HB0 := Aside0.mk hb0
  have HX0 := Aside0.mk hx0
  have HNL := Aside0.mk hn
  clear hb0 hx0 hn
  show Calls Try.prog 15 _ w (VaPost ⟨5, n, s, ns, l⟩ w)
  go_enter Try.func15, Try.ntmps15
  go_wp2_with fail
  go_loopw [52] (fun t52 wr => ∃ (k : Nat) (es : Array MapEntry), t52 = .int .i64 (k : Int) ∧ k ≤ l.length ∧ Aside0 (es.size = k) ∧ Aside0 (wr.heap[w.heap.size + 1]? = some (.map es es.size)) ∧ Aside0 (wr.heap[w.heap.size]? = some (.cells #[.int .i64 5, .int .u64 n, .string s, .slice A3 ns.length c3, .slice A4 l.length c4] 33 (0, 0))) ∧ Aside0 (Below w.heap.size w wr) ∧ Aside0 (∀ (j : Nat) (h : j < es.size) (h' : j < ns.length), es[j].key = .string ns[j] ∧ es[j].born = j) ∧ Aside0 (∀ (j : Nat) (h : j < es.size) (h' : j < l.length), Val wr (fun b => w.heap.size ≤ b ∧ b ≠ w.heap.size + 1) es[j].val l[j])) (fun t52 _ => l.length - (intOf t52).toNat)
  case atStart =>
    have hb1 := below_alloc (Below.refl (w.alloc (.cells #[.int .i64 5, .int .u64 n, .string s, .slice A3 ns.length c3, .slice A4 l.length c4] 33)).heap.size _) (.map #[] 0)
    have hx1 := heap_alloc_new (w.alloc (.cells #[.int .i64 5, .int .u64 n, .string s, .slice A3 ns.length c3, .slice A4 l.length c4] 33)) (.map #[] 0)
    have hsz : (w.alloc (.cells #[.int .i64 5, .int .u64 n, .string s, .slice A3 ns.length c3, .slice A4 l.length c4] 33)).heap.size = w.heap.size + 1 := by simp
    rw [hsz] at hb1 hx1
    exact ⟨0, #[], rfl, Nat.zero_le _, ⟨rfl⟩, ⟨hx1⟩, ⟨(hb1.block _ (by omega)).trans HX0.out⟩, ⟨HB0.out.trans (hb1.mono (by omega))⟩, ⟨fun j h => absurd h (by simp)⟩, ⟨fun j h => absurd h (by simp)⟩⟩
  case round =>
    obtain ⟨k, es, rfl, hk, hes, HM, HX, HB, HK, HV⟩ := hrel
    rcases Nat.lt_or_ge k l.length with hlt | hge
    · have hnk : k < ns.length := by have := HNL.out; omega
      have hnlt : (k : Int) < (ns.length : Int) := by omega
      obtain ⟨adn, rfl, hcn⟩ := (HN.out wr HB.out).2.2 (by omega)
      have qn : wr.cell? (adn.add k) = some (.string ns[k]) := by rw [hcn k hnk, List.getD_eq_getElem?_getD, List.getElem?_eq_getElem hnk]; rfl
      have hat := at_T33 (HC.out wr HB.out) (k : Int) (by omega) (by omega)
      have hx : rd_T33 l (k : Int) = l[k] := by unfold rd_T33; rw [Int.toNat_natCast, List.getD_eq_getElem?_getD, List.getElem?_eq_getElem hlt]; rfl
      rw [hx, Int.toNat_natCast] at hat
      obtain ⟨ad, B3, d3, B4, d4, rfl, q0, q1, q2, q3, q4, l3, e3, l4, e4⟩ := hat
      have HY := Aside0.mk (HI.out l[k] (List.getElem_mem hlt))
      have hnew : ∀ e ∈ es.toList, ∃ t : ByteArray, e.key = .string t ∧ t ≠ ns[k] := by
        intro e he
        obtain ⟨j, hj, rfl⟩ := List.getElem_of_mem he
        have hj' : j < es.size := by simpa using hj
        have hjk : j < k := by have := hes.out; omega
        refine ⟨ns[j], (HK.out j hj' (by omega)).1, fun he2 => ?_⟩
        have := (List.getElem_inj HD.out).1 he2
        omega
      have HNW := Aside0.mk hnew
      clear hnew
      generalize hy : l[k] = y at *
      have HKN : Aside0 (∃ z, z = ns[k]) := ⟨_, rfl⟩
      have HE3 := Aside0.mk (fun W (h : Below wr.heap.size wr W) => Kd.C_below e3 h)
      have HE4 := Aside0.mk (fun W (h : Below wr.heap.size wr W) => Kd.C_below e4 h)
      clear e3 e4 hx hcn
      have x3 : wr.cell? ⟨w.heap.size, 3, none⟩ = some (.slice (some adn) ns.length c3) := by rw [Lib.cell_of_heap HX.out]; rfl
      have x4 : wr.cell? ⟨w.heap.size, 4, none⟩ = some (.slice (some ad) l.length c4) := by rw [Lib.cell_of_heap HX.out]; rfl
      have hlt' : (k : Int) < (l.length : Int) := by omega
      generalize hnm : ns[k] = nm at *
      go_wp2_with fail
      refine (HY.out B3 d3 B4 d4 _ (HE3.out _ (Below.refl _ _)) l3 (HE4.out _ (Below.refl _ _)) l4).mono ?_
      rintro e w5 ⟨v, rfl, hv, hb5⟩
      have hM5 := (hb5.block _ (blk_lt HM.out)).trans HM.out
      have hX5 := (hb5.block _ (blk_lt HX.out)).trans HX.out
      have hmu := mapUp w5 (w.heap.size + 1) es nm v.val hM5 HNW.out
      have hpush : (es.push { key := .string nm, val := v.val, born := es.size }).size = es.size + 1 := by simp
      have HM6 : Aside0 ((putO w5 (w.heap.size + 1) (.map (es.push { key := .string nm, val := v.val, born := es.size }) (es.size + 1))).heap[w.heap.size + 1]? = some (.map (es.push { key := .string nm, val := v.val, born := es.size }) (es.push { key := .string nm, val := v.val, born := es.size }).size)) := ⟨by rw [hpush]; exact putO_at hM5⟩
      have HX6 : Aside0 ((putO w5 (w.heap.size + 1) (.map (es.push { key := .string nm, val := v.val, born := es.size }) (es.size + 1))).heap[w.heap.size]? = some (.cells #[.int .i64 5, .int .u64 n, .string s, .slice (some adn) ns.length c3, .slice (some ad) l.length c4] 33 (0, 0))) := ⟨(putO_other (by omega)).trans hX5⟩
      have HB6 : Aside0 (Below w.heap.size w (putO w5 (w.heap.size + 1) (.map (es.push { key := .string nm, val := v.val, born := es.size }) (es.size + 1)))) := ⟨putO_below (HB.out.trans (hb5.mono HB.out.size)) (by omega) _⟩
      have HK6 : Aside0 (∀ (j : Nat) (h : j < (es.push { key := .string nm, val := v.val, born := es.size }).size) (h' : j < ns.length), (es.push { key := .string nm, val := v.val, born := es.size })[j].key = .string ns[j] ∧ (es.push { key := .string nm, val := v.val, born := es.size })[j].born = j) := ⟨fun j h h' => by
        rw [hpush] at h
        rw [Array.getElem_push]
        split
        · next hj => exact HK.out j hj h'
        · next hj =>
          have hjk : j = k := by have := hes.out; omega
          subst hjk
          exact ⟨by rw [hnm], by rw [hes.out]⟩⟩
      have HV6 : Aside0 (∀ (j : Nat) (h : j < (es.push { key := .string nm, val := v.val, born := es.size }).size) (h' : j < l.length), Val (putO w5 (w.heap.size + 1) (.map (es.push { key := .string nm, val := v.val, born := es.size }) (es.size + 1))) (fun b => w.heap.size ≤ b ∧ b ≠ w.heap.size + 1) (es.push { key := .string nm, val := v.val, born := es.size })[j].val l[j]) := ⟨fun j h h' => by
        rw [hpush] at h
        rw [Array.getElem_push]
        split
        · next hj => exact (HV.out j hj h').step (fun k hk hlt => ⟨(putO_other hk.2).trans (hb5.block k hlt), hk⟩)
        · next hj =>
          have hjk : j = k := by have := hes.out; omega
          subst hjk
          rw [hy]
          have hmlt := blk_lt HM.out
          exact hv.step (fun k hk hlt => by have hk' : wr.heap.size ≤ k := hk; exact ⟨putO_other (by omega), by omega, by omega⟩)⟩
      have hes2 : Aside0 ((es.push { key := .string nm, val := v.val, born := es.size }).size = k + 1) := ⟨by rw [hpush, hes.out]⟩
      clear hv hb5 hM5 hX5 HM HX HB HK HV HNW HE3 HE4 HKN hpush
      generalize es.push { key := .string nm, val := v.val, born := es.size } = es2 at *
      generalize putO w5 (w.heap.size + 1) (.map es2 (es.size + 1)) = w6 at *
      go_wp2_with fail
      go_roundw
      case rel => exact ⟨k + 1, es2, by go_num, by omega, hes2, HM6, HX6, HB6, HK6, HV6⟩
      case measure => simp [intOf]; omega
    · obtain rfl : k = l.length := by omega
      have hnlt : ¬ ((l.length : Int) < (ns.length : Int)) := by have := HNL.out; omega
      have hnl : decide ((l.length : Int) < (ns.length : Int)) = false := decide_eq_false hnlt
      go_wp2_with fail
      go_ret
      have hobj : Val wr (fun k => w.heap.size ≤ k) (.iface 71 (.map (some (w.heap.size + 1)))) ⟨5, n, s, ns, l⟩ := .obj _ _ es rfl (by omega) HM.out hes.out (fun j h => (HK.out j h (by have := HNL.out; have := hes.out; omega)).2) (fun j h h' => (HV.out j h h').step (fun k hk _ => ⟨rfl, hk.1⟩))
      exact ⟨⟨.iface 71 (.map (some (w.heap.size + 1))), .inr ⟨_, _, rfl⟩⟩, rfl, hobj, HB.out⟩
end Go.Proofs.Ytlhaifbmacndeaa.PJS
