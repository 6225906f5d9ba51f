/-
  Contract of impl.Node.value: the value as an interface, out of slices and maps. Condition: a tree whose objects have as many names as items, no name twice.
-/
import Derived.Test.YtlhaifbmacndeaaPJS0
import Derived.BigQuiet
import Derived.Deep.QuietTactic
import Derived.RegionTactic
import Derived.ChangeAlike
import Derived.LoopTactic
import Derived.BigCall
import Derived.Lib.Builder
import Derived.Deep.RegionLaw
namespace Go.Proofs.Ytlhaifbmacndeaa.PJS
open Go.RowKit Go.Proofs.YtlhaifbmacndeaaW.PrintWords Go.Proofs.YtlhaifbmacndeaaW.PrintLast Go.Proofs.YtlhaifbmacndeaaW.PrintMore
set_option linter.unusedVariables false
set_option linter.unusedSimpArgs false
set_option maxRecDepth 100000
set_option maxHeartbeats 400000

abbrev IV := { v : Value // v = .nilIface ∨ ∃ t u, v = .iface t u }
theorem IV.one (v : IV) : v.val.oneCell' = true := by
  obtain ⟨v, rfl | ⟨t, u, rfl⟩⟩ := v <;> rfl
def kV : Kd IV := Kd.scalar Subtype.val IV.one
/-- No slice and no map of values. -/
def NoTree (v : Value) : Prop := v = .nilIface ∨ ∃ t u, v = .iface t u ∧ (t = 4 ∨ t = 68 ∨ t = 9)
/-- A value in memory: v is the tree x, in blocks that are ok. -/
inductive Val (w : World) (ok : Nat → Prop) : Value → S33 → Prop
  | leaf (v : Value) (x : S33) : x.f0 ≠ 4 → x.f0 ≠ 5 → NoTree v → Val w ok v x
  | arr (x : S33) (A : Option Addr) (c : Nat) (us : List IV) : x.f0 = 4 → kV.C w A us.length us → us.length ≤ c → (∀ ad, A = some ad → 0 < us.length → ok ad.block) → us.length = x.f4.length → (∀ (j : Nat) (h : j < us.length) (h' : j < x.f4.length), Val w ok us[j].val x.f4[j]) → Val w ok (.iface 70 (.slice A us.length c)) x
  | obj (x : S33) (r : Nat) (es : Array MapEntry) : x.f0 = 5 → ok r → w.heap[r]? = some (.map es es.size) → es.size = x.f4.length → (∀ (j : Nat) (h : j < es.size), es[j].born = j) → (∀ (j : Nat) (h : j < es.size) (h' : j < x.f4.length), Val w ok es[j].val x.f4[j]) → Val w ok (.iface 71 (.map (some r))) x
theorem kV_reads {w : World} {A : Option Addr} {n : Nat} {us : List IV} (h : kV.C w A n us) : ReadsOf Subtype.val (⟨.nilIface, .inl rfl⟩ : IV) w A n us := Kd.reads_of_C (d := (⟨.nilIface, .inl rfl⟩ : IV)) h
theorem kV_lt {w : World} {A : Option Addr} {us : List IV} (h : kV.C w A us.length us) : ∀ ad, A = some ad → 0 < us.length → ad.block < w.heap.size := by
  intro ad e hn
  obtain ⟨ad', e', hc⟩ := (kV_reads h).2.2 hn
  obtain rfl : ad = ad' := Option.some.inj (e.symm.trans e')
  have := World.block_lt_of_cell? _ _ (hc 0 hn)
  rwa [add_block] at this
theorem Val.step {w w1 : World} {ok ok1 : Nat → Prop} {v : Value} {x : S33} (h : Val w ok v x) (hm : ∀ k, ok k → k < w.heap.size → w1.heap[k]? = w.heap[k]? ∧ ok1 k) : Val w1 ok1 v x := by
  induction h with
  | leaf v x h4 h5 hn => exact .leaf v x h4 h5 hn
  | arr x A c us h4 hC hc hok hl _ ih =>
    refine .arr x A c us h4 ?_ hc (fun ad e hn => (hm _ (hok ad e hn) (kV_lt hC ad e hn)).2) hl ih
    have h5 := kV_reads hC
    refine Kd.C_of_reads (d := (⟨.nilIface, .inl rfl⟩ : IV)) ⟨h5.1, h5.2.1, fun hn => ?_⟩
    obtain ⟨ad, e, hcell⟩ := h5.2.2 hn
    refine ⟨ad, e, fun j hj => ?_⟩
    have hb := (hm _ (hok ad e hn) (kV_lt hC ad e hn)).1
    rw [← hcell j hj]
    exact World.cell?_of_block (by rw [add_block]; exact hb)
  | obj x r es h5 hr hh hs hb _ ih =>
    have hlt : r < w.heap.size := blk_lt hh
    exact .obj x r es h5 (hm r hr hlt).2 ((hm r hr hlt).1.trans hh) hs hb ih
mutual
def S33.good : S33 → Prop
  | ⟨k, _, _, ns, l⟩ => (k ≠ 4 → k ≠ 5 → l = []) ∧ (k = 5 → ns.length = l.length ∧ ns.Nodup) ∧ l.length ≤ 4 ∧ S33.goodL l
def S33.goodL : List S33 → Prop
  | [] => True
  | x :: l => x.good ∧ S33.goodL l
end
theorem goodL_mem : ∀ {l : List S33}, S33.goodL l → ∀ y ∈ l, y.good
  | x :: l, h, y, hy => by
    rcases List.mem_cons.1 hy with rfl | hy
    · exact h.1
    · exact goodL_mem h.2 y hy
theorem good_open {x : S33} (h : x.good) : (x.f0 ≠ 4 → x.f0 ≠ 5 → x.f4 = []) ∧ (x.f0 = 5 → x.f3.length = x.f4.length ∧ x.f3.Nodup) ∧ x.f4.length ≤ 4 ∧ ∀ y ∈ x.f4, y.good := by
  obtain ⟨k, n, s, ns, l⟩ := x
  exact ⟨h.1, h.2.1, h.2.2.1, goodL_mem h.2.2.2⟩
@[go_sem] theorem frombits (n : Int) (w : World) : (callFunc 27 #[.int .u64 n]).run Try.prog w = .ok (.value (.float .f64 n.toNat)) w := by kernel_rfl
/-- The contract, at a tree. -/
def VaOk (x : S33) : Prop := ∀ (A3 : Option Addr) (c3 : Nat) (A4 : Option Addr) (c4 : Nat) (w : World), Kd.C Kd.string w A3 x.f3.length x.f3 → x.f3.length ≤ c3 → Kd.C k33 w A4 x.f4.length x.f4 → x.f4.length ≤ c4 →
    Calls Try.prog 15 #[.agg #[.int .i64 x.f0, .int .u64 x.f1, .string x.f2, .slice A3 x.f3.length c3, .slice A4 x.f4.length c4]] w fun e w' => ∃ v : IV, e = .returned v.val ∧ Val w' (fun k => w.heap.size ≤ k) v.val x ∧ Below w.heap.size w w'
theorem va_leaf (x : S33) (h4 : x.f0 ≠ 4) (h5 : x.f0 ≠ 5) : VaOk x := by
  intro A3 c3 A4 c4 w _ _ _ _
  have h : ∀ (v : IV) (w' : World), NoTree v.val → Below w.heap.size w w' → ∃ v' : IV, Ending.returned v.val = .returned v'.val ∧ Val w' (fun k => w.heap.size ≤ k) v'.val x ∧ Below w.heap.size w w' := fun v w' hn hb => ⟨v, rfl, .leaf _ _ h4 h5 hn, hb⟩
  obtain ⟨k, n, s, ns, l⟩ := x
  simp only at *
  have HH := Aside0.mk h
  clear h
  by_cases h1 : k = 1
  · subst h1
    go_enter Try.func15, Try.ntmps15
    go_wp2
    go_ret
    exact HH.out ⟨.iface 4 (.bool (n == 1)), .inr ⟨_, _, rfl⟩⟩ _ (.inr ⟨_, _, rfl, by decide⟩) (below_alloc (Below.refl _ _) _)
  by_cases h2 : k = 2
  · subst h2
    go_enter Try.func15, Try.ntmps15
    go_wp2
    go_ret
    exact HH.out ⟨.iface 68 (.float .f64 n.toNat), .inr ⟨_, _, rfl⟩⟩ _ (.inr ⟨_, _, rfl, by decide⟩) (below_alloc (Below.refl _ _) _)
  by_cases h3 : k = 3
  · subst h3
    go_enter Try.func15, Try.ntmps15
    go_wp2
    go_ret
    exact HH.out ⟨.iface 9 (.string s), .inr ⟨_, _, rfl⟩⟩ _ (.inr ⟨_, _, rfl, by decide⟩) (below_alloc (Below.refl _ _) _)
  have g1 : (k == 1) = false := by simpa using h1
  have g2 : (k == 2) = false := by simpa using h2
  have g3 : (k == 3) = false := by simpa using h3
  have g4 : (k == 4) = false := by simpa using h4
  have g5 : (k == 5) = false := by simpa using h5
  go_enter Try.func15, Try.ntmps15
  go_wp2
  go_ret
  exact HH.out ⟨.nilIface, .inl rfl⟩ _ (.inl rfl) (below_alloc (Below.refl _ _) _)

theorem Val.shift {W w1 : World} {B : Nat} {v v1 u : Value} {x : S33} (h : Val W (fun b => B ≤ b ∧ some b ≠ v.ownBlock) u x) (hg : W.grownBy w1 v.ownBlock) (hat : v1.ownBlock = v.ownBlock ∨ ∃ b, v1.ownBlock = some b ∧ W.heap.size ≤ b) : Val w1 (fun b => B ≤ b ∧ some b ≠ v1.ownBlock) u x :=
  h.step (fun k hk hlt => ⟨hg.block k hlt hk.2, hk.1, by
    rcases hat with hat | ⟨b, hb, hle⟩
    · rw [hat]; exact hk.2
    · rw [hb]
      intro he
      have := Option.some.inj he
      omega⟩)
theorem infoI : (Try.prog.info? 20).map (fun i => (i.zero, i.size, i.bytes)) = some (some .nilIface, 1, 16) := by kernel_rfl
theorem va_arr (x : S33) (h4 : x.f0 = 4) (hl : x.f4.length ≤ 4) (ih : ∀ y ∈ x.f4, VaOk y) : VaOk x := by
  intro A3 c3 A4 c4 w _ _ hC hc4
  obtain ⟨K, n, s, ns, l⟩ := x
  simp only at *
  subst h4
  have HC := Aside0.mk (fun W (h : Below w.heap.size w W) => Kd.C_below hC h)
  have HI := Aside0.mk ih
  have hb0 := below_alloc (Below.refl w.heap.size w) (.cells #[.int .i64 4, .int .u64 n, .string s, .slice A3 ns.length c3, .slice A4 l.length c4] 33)
  clear hC ih
  have HB0 := Aside0.mk hb0
  clear hb0
  go_enter Try.func15, Try.ntmps15
  go_wp2_with fail
  go_loopw [3, 34] (fun t3 t34 wr => ∃ (k : Nat) (us : List IV), t34 = .int .i64 (k : Int) ∧ k ≤ l.length ∧ Aside0 (us.length = k) ∧ Aside0 (kV.R 20 wr w.heap.size (fun _ => True) t3 us) ∧ Aside0 (Below w.heap.size w wr) ∧ Aside0 (∀ (j : Nat) (h : j < us.length) (h' : j < l.length), Val wr (fun b => w.heap.size ≤ b ∧ some b ≠ t3.ownBlock) us[j].val l[j])) (fun _ t34 _ => l.length - (intOf t34).toNat)
  case atStart =>
    refine ⟨0, [], rfl, Nat.zero_le _, ⟨rfl⟩, ⟨?_⟩, ⟨?_⟩, ⟨fun j h => absurd h (by simp)⟩⟩
    · have hm := World.ownsRow_made (e := 20) (size := 1) (w.alloc (.cells #[.int .i64 4, .int .u64 n, .string s, .slice A3 ns.length c3, .slice A4 l.length c4] 33)) #[] 0 HB0.out.size (by decide) rfl
      have hsz : (w.alloc (.cells #[.int .i64 4, .int .u64 n, .string s, .slice A3 ns.length c3, .slice A4 l.length c4] 33)).heap.size = w.heap.size + 1 := by simp
      rw [hsz] at hm
      exact ⟨fun _ _ => trivial, [], hm, Reps.none _ _⟩
    · exact below_alloc HB0.out _
  case round =>
    obtain ⟨k, us, rfl, hk, hus, HR, HB, HV⟩ := hrel
    rcases Nat.lt_or_ge k l.length with hlt | hge
    · have hat := at_T33 (HC.out wr HB.out) (k : Int) (by omega) (by omega)
      have hx : rd_T33 l (k : Int) = l[k] := by unfold rd_T33; rw [Int.toNat_natCast, List.getD_eq_getElem?_getD, List.getElem?_eq_getElem hlt]; rfl
      rw [hx, Int.toNat_natCast] at hat
      obtain ⟨ad, B3, d3, B4, d4, rfl, q0, q1, q2, q3, q4, l3, e3, l4, e4⟩ := hat
      have HY := Aside0.mk (HI.out l[k] (List.getElem_mem hlt))
      generalize hy : l[k] = y at *
      have HE3 := Aside0.mk (fun W (h : Below wr.heap.size wr W) => Kd.C_below e3 h)
      have HE4 := Aside0.mk (fun W (h : Below wr.heap.size wr W) => Kd.C_below e4 h)
      clear e3 e4 hx
      have hbx := below_alloc (Below.refl wr.heap.size wr) (.cells #[.int .i64 y.f0, .int .u64 y.f1, .string y.f2, .slice B3 y.f3.length d3, .slice B4 y.f4.length d4] 33)
      have HBX := Aside0.mk hbx
      clear hbx
      obtain ⟨A7, c7, rfl⟩ := Kd.R_slice HR.out
      go_wp2_with fail
      refine (HY.out B3 d3 B4 d4 _ (HE3.out _ HBX.out) l3 (HE4.out _ HBX.out) l4).mono ?_
      rintro e w5 ⟨v, rfl, hv, hb5⟩
      have hs0 : wr.heap.size ≤ (wr.alloc (.cells #[.int .i64 y.f0, .int .u64 y.f1, .string y.f2, .slice B3 y.f3.length d3, .slice B4 y.f4.length d4] 33)).heap.size := by simp
      have hb50 : Below wr.heap.size wr w5 := HBX.out.trans (hb5.mono hs0)
      have HB5 := Aside0.mk (HB.out.trans (hb50.mono HB.out.size))
      have hs5 : w.heap.size ≤ w5.heap.size := HB5.out.size
      have HR5 := Aside0.mk (Kd.R_below HR.out hb50)
      have HV5 : Aside0 (∀ (j : Nat) (h : j < (us ++ [v]).length) (h' : j < l.length), Val w5 (fun b => w.heap.size ≤ b ∧ some b ≠ (.slice A7 us.length c7 : Value).ownBlock) (us ++ [v])[j].val l[j]) := ⟨fun j h h' => by
        rw [List.length_append, List.length_singleton] at h
        rcases Nat.lt_or_ge j us.length with hj | hj
        · rw [List.getElem_append_left hj]
          exact (HV.out j hj h').step (fun k hk hlt => ⟨hb50.block k hlt, hk⟩)
        · have hjk : j = k := by have := hus.out; omega
          subst hjk
          rw [hy]
          rw [show (us ++ [v])[j] = v by rw [List.getElem_append_right hj]; simp [hus.out]]
          exact hv.step (fun k hk hlt => ⟨rfl, Nat.le_trans HB.out.size (Nat.le_trans hs0 hk), fun he => by have := Kd.R_lt HR.out k he.symm; have hk' : _ ≤ k := hk; omega⟩)⟩
      have hlu : (us.length + 1) * 16 ≤ 140737488355328 := by have := hus.out; omega
      clear hb5 hb50 hv HBX HE3 HE4 HR HV hs0 HB
      obtain ⟨vv, hvv⟩ : ∃ vv, vv = v.val := ⟨_, rfl⟩
      have hpair := v.2
      rw [← hvv] at hpair ⊢
      have HVV := Aside0.mk hvv
      clear hvv
      rcases hpair with rfl | ⟨t, u, rfl⟩
      all_goals
        go_wp2_with ((with_reducible refine gate_builtin (b := .append) (xs := #[.tmp 38, .tmp 41]) rfl ?_); at_builtin; go_loud (refine Kd.R_append kV (w0 := w) (W := w5) w.heap.size rfl (.tmp 38) (.tmp 41) 70 20 .nilIface 16 rfl Try.underlying70 infoI rfl (by decide) (by decide) (.slice A7 us.length c7) us v [_] (fun _ => True) (fun _ => False) rfl rfl (by rw [HVV.out]; rfl) (fun z hz => hz.elim) (fun _ _ => trivial) HR5.out HB5.out hs5 hlu ?_; intro v1 w6 ho hb6 hg6 hat; have HV6 : Aside0 (∀ (j : Nat) (h : j < (us ++ [v]).length) (h' : j < l.length), Val w6 (fun b => w.heap.size ≤ b ∧ some b ≠ v1.ownBlock) (us ++ [v])[j].val l[j]) := Aside0.mk (fun j h h' => (HV5.out j h h').shift hg6 hat); clear hg6 hat; have HO6 := Aside0.mk ho; have HB6 := Aside0.mk hb6; clear ho hb6))
        go_roundw
        case rel => exact ⟨k + 1, us ++ [v], by go_num, by omega, ⟨by rw [List.length_append, hus.out]; rfl⟩, HO6, HB6, HV6⟩
        case measure => simp [intOf]; omega
    · obtain rfl : k = l.length := by omega
      obtain ⟨A7, c7, he, hle, hCu⟩ := Kd.R_reads HR.out
      subst he
      go_wp2_with fail
      go_ret
      have harr : Val wr (fun k => w.heap.size ≤ k) (.iface 70 (.slice A7 us.length c7)) ⟨4, n, s, ns, l⟩ := .arr _ A7 c7 us rfl hCu hle (fun ad e hn => Kd.R_base HR.out ad.block (by rw [e]; rfl)) hus.out (fun j h h' => (HV.out j h h').step (fun k hk _ => ⟨rfl, hk.1⟩))
      exact ⟨⟨.iface 70 (.slice A7 us.length c7), .inr ⟨_, _, rfl⟩⟩, rfl, harr, HB.out⟩

end Go.Proofs.Ytlhaifbmacndeaa.PJS
