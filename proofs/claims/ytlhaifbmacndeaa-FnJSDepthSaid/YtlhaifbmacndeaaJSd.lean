/-
  Contracts of json.depth and impl.JSDepth: how deep a value is. Condition: a tree whose objects have as many names as items, no name twice.
-/
import Derived.Test.YtlhaifbmacndeaaJSo
import Derived.Laws.IdiomRangeMap
namespace Go.Proofs.Ytlhaifbmacndeaa.PJS
open Go.RowKit Go.Proofs.YtlhaifbmacndeaaW.PrintWords Go.Proofs.YtlhaifbmacndeaaW.PrintLast Go.Proofs.YtlhaifbmacndeaaW.PrintMore
set_option linter.unusedVariables false
set_option linter.unusedSimpArgs false
set_option maxRecDepth 100000
set_option maxHeartbeats 400000

theorem size_mem {x y : S33} (h : y ∈ x.f4) : SizeOf.sizeOf y < SizeOf.sizeOf x := by
  obtain ⟨k, n, s, ns, l⟩ := x
  have := List.sizeOf_lt_of_mem h
  simp only [S33.mk.sizeOf_spec]
  simp only at this
  omega
theorem va_all : ∀ (n : Nat) (x : S33), SizeOf.sizeOf x < n → x.good → VaOk x
  | 0, x, h, _ => absurd h (by omega)
  | n + 1, x, h, hg => by
    obtain ⟨g1, g2, g3, g4⟩ := good_open hg
    have ih : ∀ y ∈ x.f4, VaOk y := fun y hy => va_all n y (by have := size_mem hy; omega) (g4 y hy)
    by_cases h4 : x.f0 = 4
    · exact va_arr x h4 g3 ih
    · by_cases h5 : x.f0 = 5
      · exact va_obj x h5 g3 (g2 h5).1 (g2 h5).2 ih
      · exact va_leaf x h4 h5
theorem va_ok (x : S33) (hg : x.good) : VaOk x := va_all _ x (Nat.lt_succ_self _) hg

mutual
def S33.dep : S33 → Int
  | ⟨_, _, _, _, l⟩ => S33.depL l + 1
def S33.depL : List S33 → Int
  | [] => 0
  | x :: l => max x.dep (S33.depL l)
end
theorem dep_eq (x : S33) : x.dep = S33.depL x.f4 + 1 := by
  obtain ⟨k, n, s, ns, l⟩ := x
  rfl
theorem depL_nonneg : ∀ l : List S33, 0 ≤ S33.depL l
  | [] => Int.le_refl _
  | x :: l => by
    have := depL_nonneg l
    unfold S33.depL
    omega
theorem depL_mem : ∀ {l : List S33} {y : S33}, y ∈ l → y.dep ≤ S33.depL l
  | x :: l, y, h => by
    unfold S33.depL
    rcases List.mem_cons.1 h with rfl | h
    · omega
    · have := depL_mem h
      omega
theorem depL_le : ∀ {l : List S33} {m : Int}, 0 ≤ m → (∀ y ∈ l, y.dep ≤ m) → S33.depL l ≤ m
  | [], m, h0, _ => h0
  | x :: l, m, h0, h => by
    unfold S33.depL
    have h1 := h x List.mem_cons_self
    have h2 := depL_le h0 (fun y hy => h y (List.mem_cons_of_mem _ hy))
    omega
theorem depL_snoc (x : S33) : ∀ l : List S33, S33.depL (l ++ [x]) = max (S33.depL l) x.dep
  | [] => by
    show max x.dep 0 = max 0 x.dep
    omega
  | y :: l => by
    show max y.dep (S33.depL (l ++ [x])) = max (max y.dep (S33.depL l)) x.dep
    rw [depL_snoc x l]
    omega
/-- One step over a map, wherever the iterator lies. -/
theorem next_map {P : Program} (w : World) (ty : TypeId) (it bm since c0 : Nat) (seen : Array Nat) (es : Array MapEntry) (clock : Nat) (hi : w.heap[it]? = some (.mapIter (some bm) since seen c0)) (hb : w.heap[bm]? = some (.map es clock)) (hold : ∀ x ∈ es.toList, x.born < since) (hsc : since ≤ c0) :
    ((leftOf es seen).size = 0 ∧ (Instr.next (.pointer (some ⟨it, 0, none⟩)) false ty).run P w = .ok (.tuple #[.bool false]) w) ∨
    ∃ e ∈ (leftOf es seen).toList, ∃ w1 : World, (w1 = w ∨ w1 = w.drew) ∧ (Instr.next (.pointer (some ⟨it, 0, none⟩)) false ty).run P w = .ok (.tuple #[.bool true, e.key, e.val]) (putO w1 it (.mapIter (some bm) since (seen.push e.born) clock)) := by
  simp only [Instr.next, getObj, Sem.run_bind, Sem.run, hi, hb, Result.andThen, next_test_false seen es since c0 hold hsc, Bool.false_eq_true, if_false]
  unfold leftOf
  have hmem : ∀ x ∈ (Array.filter (fun e => !seen.contains e.born) es).toList, x.born < since := fun x hx => hold x (by simp at hx ⊢; exact hx.1)
  generalize Array.filter (fun e => !seen.contains e.born) es = L at hmem ⊢
  have e1 : L.filter (fun x => decide (x.born < since)) = L := Array.filter_eq_self.2 (fun x hx => by simpa using hmem x (by simpa using hx))
  have e2 : L.filter (fun x => decide (x.born ≥ since)) = #[] := by
    rw [Array.filter_eq_empty_iff]
    intro x hx
    have := hmem x (by simpa using hx)
    simp
    omega
  simp only [e1, e2, Array.append_empty]
  by_cases h0 : L.size = 0
  · left
    have : L = #[] := Array.eq_empty_of_size_eq_zero h0
    subst this
    refine ⟨rfl, ?_⟩
    simp [choose, Sem.run, Question.forced]
  · right
    have hne : L.isEmpty = false := by simp [Array.isEmpty, h0]
    simp only [hne, Bool.false_eq_true, if_false, Array.empty_append, Array.size_map]
    have hch : ∃ (j : Nat) (w1 : World), j < L.size ∧ (w1 = w ∨ w1 = w.drew) ∧ (choose (Question.mapNext L.size)).run P w = .ok j w1 := by
      by_cases hf : L.size ≤ 1
      · exact ⟨0, w, by omega, .inl rfl, by simp [choose, Sem.run, Question.forced, hf]⟩
      · exact ⟨_, w.drew, Nat.mod_lt _ (by omega), .inr rfl, by
          simp only [choose, Sem.run, Question.forced, decide_eq_true_eq, hf, if_false, Question.cut]
          rfl⟩
    obtain ⟨j, w1, hj, hal, hrun⟩ := hch
    refine ⟨L[j], by simp, w1, hal, ?_⟩
    have hi1 : w1.heap[it]? = some (.mapIter (some bm) since seen c0) := by rcases hal with rfl | rfl <;> exact hi
    have hset : ∀ (o' : Obj), (setObj it o').run P w1 = .ok () (putO w1 it o') := fun o' => by
      simp [setObj, Sem.run, hi1, putO]
    simp only [hrun, Array.getElem?_map, Array.getElem?_eq_getElem hj, Option.map_some, Sem.run_bind, hset, Result.andThen]
    rfl
theorem entry_map {P : Program} (w : World) (it bm since : Nat) (seen : Array Nat) (es : Array MapEntry) (clock : Nat) (e : MapEntry) (hi : w.heap[it]? = some (.mapIter (some bm) since (seen.push e.born) clock)) (hb : w.heap[bm]? = some (.map es clock)) (he : e ∈ es.toList) (hn : (es.toList.map (·.born)).Nodup) :
    (Instr.entry (.pointer (some ⟨it, 0, none⟩))).run P w = .ok (.tuple #[e.key, e.val]) w := by
  have hf : es.find? (·.born == e.born) = some e := by rw [← Array.find?_toList]; exact find_born e es.toList hn he
  simp only [Instr.entry, getObj, Sem.run_bind, Sem.run, hi, hb, Result.andThen, Array.back?_push, bne_self_eq_false, Bool.false_eq_true, if_false, hf]
  rfl
@[go_sem] theorem ta70_4 (u : Value) (w : World) : (Instr.typeAssert (.iface 4 u) 20 70 true).run Try.prog w = .ok (.tuple #[.slice none 0 0, .bool false]) w := by kernel_rfl
@[go_sem] theorem ta71_4 (u : Value) (w : World) : (Instr.typeAssert (.iface 4 u) 20 71 true).run Try.prog w = .ok (.tuple #[.map none, .bool false]) w := by kernel_rfl
@[go_sem] theorem ta70_68 (u : Value) (w : World) : (Instr.typeAssert (.iface 68 u) 20 70 true).run Try.prog w = .ok (.tuple #[.slice none 0 0, .bool false]) w := by kernel_rfl
@[go_sem] theorem ta71_68 (u : Value) (w : World) : (Instr.typeAssert (.iface 68 u) 20 71 true).run Try.prog w = .ok (.tuple #[.map none, .bool false]) w := by kernel_rfl
@[go_sem] theorem ta70_9 (u : Value) (w : World) : (Instr.typeAssert (.iface 9 u) 20 70 true).run Try.prog w = .ok (.tuple #[.slice none 0 0, .bool false]) w := by kernel_rfl
@[go_sem] theorem ta71_9 (u : Value) (w : World) : (Instr.typeAssert (.iface 9 u) 20 71 true).run Try.prog w = .ok (.tuple #[.map none, .bool false]) w := by kernel_rfl
@[go_sem] theorem ta70_nil (w : World) : (Instr.typeAssert .nilIface 20 70 true).run Try.prog w = .ok (.tuple #[.slice none 0 0, .bool false]) w := by kernel_rfl
@[go_sem] theorem ta71_nil (w : World) : (Instr.typeAssert .nilIface 20 71 true).run Try.prog w = .ok (.tuple #[.map none, .bool false]) w := by kernel_rfl
@[go_sem] theorem ta70_70 (u : Value) (w : World) : (Instr.typeAssert (.iface 70 u) 20 70 true).run Try.prog w = .ok (.tuple #[u, .bool true]) w := by kernel_rfl
@[go_sem] theorem ta70_71 (u : Value) (w : World) : (Instr.typeAssert (.iface 71 u) 20 70 true).run Try.prog w = .ok (.tuple #[.slice none 0 0, .bool false]) w := by kernel_rfl
@[go_sem] theorem ta71_71 (u : Value) (w : World) : (Instr.typeAssert (.iface 71 u) 20 71 true).run Try.prog w = .ok (.tuple #[u, .bool true]) w := by kernel_rfl
theorem iterSeen_of {w : World} {it : Nat} {a : Option Nat} {b c : Nat} {s : Array Nat} (h : w.heap[it]? = some (.mapIter a b s c)) : w.iterSeen it = s := by
  unfold World.iterSeen
  rw [h]
def DepOk (x : S33) : Prop := ∀ (v : Value) (w : World), Val w (fun _ => True) v x → x.dep ≤ 1000 → Calls Try.prog 26 #[v] w fun e w' => e = .returned (.tuple #[.int .i64 x.dep, .nilIface]) ∧ Below w.heap.size w w'
theorem dep_leaf (x : S33) (h4 : x.f0 ≠ 4) (h5 : x.f0 ≠ 5) (hl : x.f4 = []) : DepOk x := by
  intro v w hv _
  have hd : x.dep = 1 := by rw [dep_eq, hl]; rfl
  rw [hd]
  cases hv with
  | leaf _ _ _ _ hn =>
    rcases hn with rfl | ⟨t, u, rfl, rfl | rfl | rfl⟩
    all_goals
      go_enter Try.func26, Try.ntmps26
      go_wp2
      go_ret2
      exact ⟨rfl, Below.refl _ _⟩
  | arr => exact absurd ‹_› h4
  | obj => exact absurd ‹_› h5
theorem Val.later {w w1 : World} {v : Value} {x : S33} (h : Val w (fun _ => True) v x) (hb : Below w.heap.size w w1) : Val w1 (fun _ => True) v x := h.step (fun k _ hlt => ⟨hb.block k hlt, trivial⟩)
theorem dep_arr (x : S33) (h4 : x.f0 = 4) (ih : ∀ y ∈ x.f4, DepOk y) : DepOk x := by
  intro v w hv hle
  have hde := dep_eq x
  cases hv with
  | leaf _ _ h _ _ => exact absurd h4 h
  | obj _ _ _ h => exact absurd (h4.symm.trans h) (by decide)
  | arr _ A c us _ hC hc hok hus hV =>
    generalize hl : x.f4 = l at *
    have HV := Aside0.mk hV
    have HI := Aside0.mk ih
    have HC := Aside0.mk (fun W (h : Below w.heap.size w W) => kV_reads (Kd.C_below hC h))
    have HU := Aside0.mk hus
    generalize x.dep = D at *
    clear hV ih hC hok hl h4 hus
    have hll : l.length = us.length := HU.out.symm
    have hmx : us.length ≤ 9223372036854775807 := (HC.out w (Below.refl _ _)).2.1
    go_enter Try.func26, Try.ntmps26
    go_wp2_with fail
    go_loopw [4, 21] (fun t4 t21 wr => ∃ (k : Nat), t21 = .int .i64 (k : Int) ∧ k ≤ us.length ∧ t4 = .int .i64 (S33.depL (l.take k)) ∧ Aside0 (Below w.heap.size w wr)) (fun _ t21 _ => us.length - (intOf t21).toNat)
    case atStart => exact ⟨0, rfl, Nat.zero_le _, rfl, ⟨Below.refl _ _⟩⟩
    case round =>
      obtain ⟨k, rfl, hk, rfl, HB⟩ := hrel
      rcases Nat.lt_or_ge k us.length with hlt | hge
      · have hkl : k < l.length := by omega
        obtain ⟨ad, rfl, hcn⟩ := (HC.out wr HB.out).2.2 (by omega)
        have qn : wr.cell? (ad.add k) = some us[k].val := by rw [hcn k hlt, List.getD_eq_getElem?_getD, List.getElem?_eq_getElem hlt]; rfl
        have hlt' : (k : Int) < (us.length : Int) := by omega
        have HY := Aside0.mk ((HI.out l[k] (List.getElem_mem hkl)) us[k].val wr ((HV.out k hlt hkl).later HB.out) (by have := depL_mem (List.getElem_mem hkl); omega))
        have htk : S33.depL (l.take (k + 1)) = max (S33.depL (l.take k)) l[k].dep := by rw [List.take_succ_eq_append_getElem hkl, depL_snoc]
        have hone := us[k].one
        have hdl := depL_nonneg (l.take k)
        generalize l[k].dep = e1 at *
        generalize S33.depL (l.take k) = m at *
        clear hcn
        go_wp2_with fail
        refine (HY.out).mono ?_
        rintro e w5 ⟨rfl, hb5⟩
        have HB5 := Aside0.mk (below_step HB.out hb5)
        clear hb5 HY HB
        by_cases hgt : m < e1
        · have hgd : decide (m < e1) = true := decide_eq_true hgt
          rw [Int.max_eq_right (by omega)] at htk
          have HT := Aside0.mk htk
          clear htk
          go_wp2_with fail
          go_roundw
          case rel => exact ⟨k + 1, by go_num, by omega, by rw [HT.out], HB5⟩
          case measure => simp [intOf]; omega
        · have hgd : decide (m < e1) = false := decide_eq_false hgt
          rw [Int.max_eq_left (by omega)] at htk
          have HT := Aside0.mk htk
          clear htk
          go_wp2_with fail
          go_roundw
          case rel => exact ⟨k + 1, by go_num, by omega, by rw [HT.out], HB5⟩
          case measure => simp [intOf]; omega
      · obtain rfl : k = us.length := by omega
        rw [← hll, List.take_length] at *
        have hdn := depL_nonneg l
        have hww : wrap64 (S33.depL l + 1) = S33.depL l + 1 := by unfold wrap64; omega
        go_wp2_with fail
        go_ret2
        exact ⟨by first | rfl | rw [hde], HB.out⟩
theorem dep_obj (x : S33) (h5 : x.f0 = 5) (ih : ∀ y ∈ x.f4, DepOk y) : DepOk x := by
  intro v w hv hle
  have hde := dep_eq x
  cases hv with
  | leaf _ _ _ h _ => exact absurd h5 h
  | arr _ _ _ _ h => exact absurd (h5.symm.trans h) (by decide)
  | obj _ r es _ _ hr hs hb hV =>
    generalize hl : x.f4 = l at *
    have HV := Aside0.mk hV
    have HI := Aside0.mk ih
    have HR := Aside0.mk hr
    have HS := Aside0.mk hs
    have HBn := Aside0.mk hb
    have hrlt := blk_lt hr
    have hnd : (es.toList.map (·.born)).Nodup := by
      have he : es.toList.map (·.born) = List.range es.size := by
        apply List.ext_getElem
        · simp
        · intro j h1 h2
          simp only [List.length_map, Array.length_toList] at h1
          rw [List.getElem_map, List.getElem_range, Array.getElem_toList, hb j h1]
      rw [he]
      exact List.nodup_range
    have hold : ∀ e ∈ es.toList, e.born < es.size := by
      intro e he
      obtain ⟨j, hj, rfl⟩ := List.getElem_of_mem he
      have hj' : j < es.size := by simpa using hj
      rw [Array.getElem_toList, hb j hj']
      exact hj'
    have HN := Aside0.mk hnd
    have HO := Aside0.mk hold
    have hrange := run_range_map (P := Try.prog) w 71 9 20 r es es.size (by kernel_rfl) hr
    generalize x.dep = D at *
    clear hV ih hl h5 hr hs hb hnd hold
    go_enter Try.func26, Try.ntmps26
    go_wp2_with fail
    go_loopw [4] (fun t4 wr => ∃ (m : Int) (seen : Array Nat), t4 = .int .i64 m ∧ 0 ≤ m ∧ m ≤ S33.depL l ∧ Aside0 (wr.heap[w.heap.size]? = some (.mapIter (some r) es.size seen es.size)) ∧ Aside0 (Below w.heap.size w wr) ∧ Aside0 (∀ (j : Nat) (h : j < l.length), seen.contains j = true → l[j].dep ≤ m)) (fun _ wr => (leftOf es (wr.iterSeen w.heap.size)).size)
    case atStart =>
      exact ⟨0, #[], rfl, Int.le_refl _, depL_nonneg l, ⟨heap_alloc_new _ _⟩, ⟨below_alloc (Below.refl _ _) _⟩, ⟨fun j h hc => by simp at hc⟩⟩
    case round =>
      obtain ⟨m, seen, rfl, hm0, hml, HIt, HB, HM⟩ := hrel
      have hbr := (HB.out.block r hrlt).trans HR.out
      rcases next_map (P := Try.prog) wr 0 w.heap.size r es.size es.size seen es es.size HIt.out hbr HO.out (Nat.le_refl _) with ⟨h0, hrun⟩ | ⟨e, he, w1, hw1, hrun⟩
      · have hall : S33.depL l ≤ m := depL_le hm0 (fun y hy => by
          obtain ⟨j, hj, rfl⟩ := List.getElem_of_mem hy
          have hje : j < es.size := by have := HS.out; omega
          have hs := all_seen es seen h0 es[j] (by simp)
          rw [HBn.out j hje] at hs
          exact HM.out j hj hs)
        have hmm : m = S33.depL l := by omega
        subst hmm
        have hww : wrap64 (S33.depL l + 1) = S33.depL l + 1 := by unfold wrap64; omega
        go_wp2_with fail
        go_ret2
        exact ⟨by first | rfl | (simp; done) | (rw [hde]; rfl), HB.out⟩
      · obtain ⟨heL, hec⟩ := mem_left he
        obtain ⟨j, hj, hje⟩ := List.getElem_of_mem heL
        have hj' : j < es.size := by simpa using hj
        have hjl : j < l.length := by have := HS.out; omega
        have hbj : e.born = j := by rw [← hje, Array.getElem_toList, HBn.out j hj']
        have hw : Below w.heap.size w w1 := by rcases hw1 with rfl | rfl; exact HB.out; exact below_drew HB.out
        have hi1 : w1.heap[w.heap.size]? = some (.mapIter (some r) es.size seen es.size) := by rcases hw1 with rfl | rfl <;> exact HIt.out
        have hb6 := putO_below hw (Nat.le_refl _) (.mapIter (some r) es.size (seen.push e.born) es.size)
        have hi6 : (putO w1 w.heap.size (.mapIter (some r) es.size (seen.push e.born) es.size)).heap[w.heap.size]? = some (.mapIter (some r) es.size (seen.push e.born) es.size) := putO_at hi1
        have hr6 := (hb6.block r hrlt).trans HR.out
        have hent := entry_map (P := Try.prog) _ w.heap.size r es.size seen es es.size e hi6 hr6 heL HN.out
        have hval : Val w (fun _ => True) e.val l[j] := by rw [← hje, Array.getElem_toList]; exact HV.out j hj' hjl
        have HY := Aside0.mk ((HI.out l[j] (List.getElem_mem hjl)) e.val _ (hval.later hb6) (by have := depL_mem (List.getElem_mem hjl); omega))
        have hdm := depL_mem (List.getElem_mem hjl)
        have HLE := Aside0.mk (left_shrinks es seen e he)
        have HI6 := Aside0.mk hi6
        have HB6 := Aside0.mk hb6
        have hm1 : ∀ (i : Nat) (h : i < l.length), (seen.push e.born).contains i = true → l[i].dep ≤ max m l[j].dep := by
          intro i hi hc
          rw [contains_push] at hc
          rw [Bool.or_eq_true] at hc
          rcases hc with hc | hc
          · have := HM.out i hi hc
            omega
          · have hij : i = j := by rw [← hbj]; exact beq_iff_eq.1 hc
            subst hij
            omega
        have HM1 := Aside0.mk hm1
        have HMS := Aside0.mk (iterSeen_of HIt.out)
        clear hm1 hi6 hb6 hr6 hval hw1 hw hi1 heL hec hje hbr he HM HB HIt
        generalize l[j].dep = e1 at *
        generalize seen.push e.born = seen1 at *
        generalize putO w1 w.heap.size (.mapIter (some r) es.size seen1 es.size) = w6 at *
        go_wp2_with fail
        refine (HY.out).mono ?_
        rintro e9 w5 ⟨rfl, hb5⟩
        have HB5 := Aside0.mk (below_step HB6.out hb5)
        have HI5 := Aside0.mk ((hb5.block _ (blk_lt HI6.out)).trans HI6.out)
        have HMS5 := Aside0.mk (iterSeen_of HI5.out)
        clear hb5 HY HB6 HI6
        by_cases hgt : m < e1
        · have hgd : decide (m < e1) = true := decide_eq_true hgt
          have HM2 := HM1
          rw [Int.max_eq_right (by omega)] at HM2
          go_wp2_with fail
          go_roundw
          case rel => exact ⟨e1, seen1, rfl, by omega, hdm, HI5, HB5, HM2⟩
          case measure => rw [HMS.out, HMS5.out]; exact HLE.out
        · have hgd : decide (m < e1) = false := decide_eq_false hgt
          have HM2 := HM1
          rw [Int.max_eq_left (by omega)] at HM2
          go_wp2_with fail
          go_roundw
          case rel => exact ⟨m, seen1, rfl, hm0, hml, HI5, HB5, HM2⟩
          case measure => rw [HMS.out, HMS5.out]; exact HLE.out
theorem dep_all : ∀ (n : Nat) (x : S33), SizeOf.sizeOf x < n → x.good → DepOk x
  | 0, x, h, _ => absurd h (by omega)
  | n + 1, x, h, hg => by
    obtain ⟨g1, g2, g3, g4⟩ := good_open hg
    have ih : ∀ y ∈ x.f4, DepOk y := fun y hy => dep_all n y (by have := size_mem hy; omega) (g4 y hy)
    by_cases h4 : x.f0 = 4
    · exact dep_arr x h4 ih
    · by_cases h5 : x.f0 = 5
      · exact dep_obj x h5 ih
      · exact dep_leaf x h4 h5 (g1 h4 h5)
theorem dep_ok (x : S33) (hg : x.good) : DepOk x := dep_all _ x (Nat.lt_succ_self _) hg
theorem Depth_ok (x : S33) (hg : x.good) (hd : x.dep ≤ 1000) (v : Value) (w : World) (hv : Val w (fun _ => True) v x) : Calls Try.prog 14 #[v] w fun e w' => e = .returned (.tuple #[.int .i64 x.dep, .nilIface]) ∧ Below w.heap.size w w' := by
  have H := Aside0.mk (dep_ok x hg v w hv hd)
  clear hv
  go_enter Try.func14, Try.ntmps14
  go_wp2_with fail
  refine (H.out).mono ?_
  rintro e w2 ⟨rfl, hb⟩
  go_wp2_with fail
  go_ret2
  exact ⟨rfl, hb⟩
open Classical in
noncomputable def impl_JSDepth.f (a0 a1 : Int) (a2 : ByteArray) (l3 : List ByteArray) (l4 : List S33) : Option (Int × Bool) := if S33.good ⟨a0, a1, a2, l3, l4⟩ ∧ S33.dep ⟨a0, a1, a2, l3, l4⟩ ≤ 1000 then some (S33.dep ⟨a0, a1, a2, l3, l4⟩, true) else none
theorem impl_JSDepth.calls (a0 a1 : Int) (a2 : ByteArray) (A3 : Option Addr) (c3 : Nat) (l3 : List ByteArray) (A4 : Option Addr) (c4 : Nat) (l4 : List S33) (r1 : Int) (r2 : Bool) (w : World) (h1 : Kd.C Kd.string w A3 l3.length l3) (h2 : l3.length ≤ c3) (h3 : Kd.C k33 w A4 l4.length l4) (h4 : l4.length ≤ c4) (h : impl_JSDepth.f a0 a1 a2 l3 l4 = some (r1, r2)) :
    Calls Try.prog 6 #[.agg #[.int .i64 a0, .int .u64 a1, .string a2, .slice A3 l3.length c3, .slice A4 l4.length c4]] w fun e w' => e = .returned (.tuple #[.int .i64 r1, .bool r2]) ∧ Below w.heap.size w w' := by
  unfold impl_JSDepth.f at h
  by_cases hok : S33.good ⟨a0, a1, a2, l3, l4⟩ ∧ S33.dep ⟨a0, a1, a2, l3, l4⟩ ≤ 1000
  · rw [if_pos hok] at h
    cases h
    have HV := Aside0.mk (fun W (hb : Below w.heap.size w W) => va_ok ⟨a0, a1, a2, l3, l4⟩ hok.1 A3 c3 A4 c4 W (Kd.C_below h1 hb) h2 (Kd.C_below h3 hb) h4)
    have HD := Aside0.mk (fun v W hv => Depth_ok ⟨a0, a1, a2, l3, l4⟩ hok.1 hok.2 v W hv)
    have HB := Aside0.mk (below_alloc (Below.refl w.heap.size w) (.cells #[.int .i64 a0, .int .u64 a1, .string a2, .slice A3 l3.length c3, .slice A4 l4.length c4] 33))
    generalize S33.dep ⟨a0, a1, a2, l3, l4⟩ = D at *
    clear h1 h2 h3 h4 hok
    go_enter Try.func6, Try.ntmps6
    go_wp2_with fail
    refine (HV.out _ HB.out).mono ?_
    rintro e w2 ⟨v, rfl, hv, hb2⟩
    have hb3 : Below w.heap.size w w2 := HB.out.trans (hb2.mono (by simp))
    have HB3 := Aside0.mk hb3
    have HVV := Aside0.mk (hv.step (w1 := w2) (ok1 := fun _ => True) (fun k _ _ => ⟨rfl, trivial⟩))
    clear hb2 hb3 hv HB HV
    go_wp2_with fail
    refine (HD.out _ _ HVV.out).mono ?_
    rintro e w3 ⟨rfl, hb3⟩
    have HB4 := Aside0.mk (below_step HB3.out hb3)
    clear hb3 HB3 HVV HD
    go_wp2
    go_region
    all_goals go_wp2
    all_goals go_ret2
    all_goals exact ⟨rfl, by repeat (first | (with_reducible exact HB4.out) | (with_reducible apply below_drew) | (with_reducible apply pw_below_drewN) | (with_reducible apply below_drew1))⟩
  · rw [if_neg hok] at h
    cases h
end Go.Proofs.Ytlhaifbmacndeaa.PJS
