/-
  Contracts of FastIntSet.String and of impl.ISText. Condition: a rising list of at most 200 numbers from 0 to 1000.
-/
import Derived.Test.YtlghbhkpdlkhjaaDoorITc
import Derived.Test.YtlghbhkpdlkhjaaDoorISd
import Derived.Test.YtlghbhkpdlkhjaaDoorPIT0
import Derived.Laws.EntriesVeiled
namespace Go.Proofs.YtlghbhkpdlkhjaaDoor.PIS
open Go.RowKit Go.Proofs.YtlghbhkpdlkhjaaDoorW.PrintWords Go.Proofs.YtlghbhkpdlkhjaaDoorW.PrintLast Go.Proofs.YtlghbhkpdlkhjaaDoorW.PrintMore
set_option linter.unusedVariables false
set_option linter.unusedSimpArgs false
set_option maxRecDepth 100000
set_option maxHeartbeats 400000

def st0 : St := ([40], -1, -1)
def stOf (l : List Int) : St := l.foldl step st0
theorem stOf_take (l : List Int) (k : Nat) (h : k < l.length) : stOf (l.take (k + 1)) = step (stOf (l.take k)) l[k] := by
  unfold stOf
  rw [List.take_succ_eq_append_getElem h, List.foldl_append]
  rfl
def StOk (n : Nat) (x : St) : Prop := (x.2.1 = -1 ∨ (0 ≤ x.2.1 ∧ x.2.1 ≤ 1000 ∧ 0 ≤ x.2.2 ∧ x.2.2 ≤ 1000)) ∧ x.1.length ≤ 1 + 50 * n
theorem sep_len (l : List UInt8) : (sep l).length ≤ l.length + 1 := by unfold sep; split <;> simp
theorem rg_len (s e : Int) (hs : 0 ≤ s ∧ s ≤ 1000) (he : 0 ≤ e ∧ e ≤ 1000) : (rg s e).length ≤ 43 := by
  have ls := Lib.itoa_length_le s (by omega) (by omega)
  have le := Lib.itoa_length_le e (by omega) (by omega)
  unfold rg
  split
  · omega
  · split <;> (simp; omega)
theorem step_St (n : Nat) (x : St) (i : Int) (h : StOk n x) (hi : 0 ≤ i ∧ i ≤ 1000) : StOk (n + 1) (step x i) := by
  obtain ⟨bs, rs, re⟩ := x
  obtain ⟨h1, h2⟩ := h
  simp only at h1 h2
  rw [step_eq]
  unfold StOk
  split
  · rename_i hc
    have := h1.resolve_left hc.1
    exact ⟨.inr (by simp only; omega), by simp only; omega⟩
  · split
    · rename_i hc
      have hh := h1.resolve_left hc
      have a := sep_len bs
      have b := rg_len rs re ⟨hh.1, hh.2.1⟩ hh.2.2
      exact ⟨.inr (by simp only; omega), by simp only [List.length_append]; omega⟩
    · exact ⟨.inr (by simp only; omega), by simp only; omega⟩
theorem stOf_ok (l : List Int) (hb : ∀ x ∈ l, 0 ≤ x ∧ x ≤ 1000) : ∀ k, k ≤ l.length → StOk k (stOf (l.take k))
  | 0, _ => by simp [stOf, st0, StOk]
  | k + 1, h => by
    rw [stOf_take l k (by omega)]
    exact step_St k _ _ (stOf_ok l hb k (by omega)) (hb _ (List.getElem_mem _))
/-- the text of a rising list -/
def textOf (l : List Int) : List UInt8 := (if (stOf l).2.1 ≠ -1 then sep (stOf l).1 ++ rg (stOf l).2.1 (stOf l).2.2 else (stOf l).1) ++ [41]
theorem fold_string (l : List Int) (hb : ∀ x ∈ l, 0 ≤ x ∧ x ≤ 1000) (hl : l.length ≤ 300) (w : World) (ht : Pow10 w) (b p : Nat) (hp : w.heap.size ≤ p) :
    Fold 69 #[.pointer (some ⟨p, 0, none⟩), .pointer (some ⟨p + 1, 0, none⟩), .pointer (some ⟨p + 2, 0, none⟩)] XT w.heap.size l (fun k W => IV w b p (stOf (l.take k)) W) where
  enter := fun args W => enters_ Tryd.func69 (by kernel_rfl) rfl args W
  own := fun k cs fz h => by
    obtain ⟨c, t, f, e, h1⟩ := h
    cases e
    revert h1; decide
  stable := fun k W W' h hb => h.later hb
  step := fun k h W hI => by
    obtain ⟨s1, s2⟩ := stOf_ok l hb k (by omega)
    rw [stOf_take l k h]
    exact step_ok w b p hp ht _ _ _ _ W hI (hb _ (List.getElem_mem _)) s1 (show (stOf (l.take k)).1.length ≤ 80000 by omega)
theorem string_ok (l : List Int) (v : Value) (w : World) (hg : Glob w) (ht : Pow10 w) (hv : SetV w v l) (hb : ∀ x ∈ l, 0 ≤ x ∧ x ≤ 1000) (hl : l.length ≤ 300) :
    Calls Tryd.prog 35 #[v] w fun e w' => e = .returned (.string ⟨(textOf l).toArray⟩) ∧ Below w.heap.size w w' := by
  obtain ⟨m, p0, rfl⟩ := setv_agg hv
  have HV := Aside0.mk (fun W (h : Below w.heap.size w W) => hv.later h)
  have HG := Aside0.mk (fun W (h : Below w.heap.size w W) => hg.later h)
  have HT := Aside0.mk (fun W (h : Below w.heap.size w W) => ht.later h)
  have HF := Aside0.mk (fold_string l hb hl w ht)
  have HO := Aside0.mk (stOf_ok l hb l.length (Nat.le_refl _))
  rw [List.take_length] at HO
  have HR := Aside0.mk hb
  clear hg ht hv hb
  have hbox : (w.alloc (.cells #[.int .u64 m, .pointer p0] 46)).heap.size = w.heap.size + 1 := by simp
  have HI0 : Aside0 (IB w.heap.size (w.heap.size + 1) [] ((w.alloc (.cells #[.int .u64 m, .pointer p0] 46)).alloc (.cells #[.slice none 0 0, .int .i64 0, .int .i8 0] 94))) :=
    ⟨⟨by omega, .slice none 0 0, 0, hbox ▸ heap_alloc_new _ _, World.ownsRow_nil _ _ _ _, by simp [Value.ownBlock]⟩⟩
  have HB0 := Aside0.mk (below_alloc (below_alloc (Below.refl w.heap.size w) (.cells #[.int .u64 m, .pointer p0] 46)) (.cells #[.slice none 0 0, .int .i64 0, .int .i8 0] 94))
  have hex : textOf l = (if (stOf l).2.1 ≠ -1 then sep (stOf l).1 ++ rg (stOf l).2.1 (stOf l).2.2 else (stOf l).1) ++ [41] := rfl
  obtain ⟨bs, rs, re, hst⟩ : ∃ bs rs re, stOf l = (bs, rs, re) := ⟨_, _, _, rfl⟩
  rw [hst] at hex
  simp only at hex
  rw [hex]
  have HST := Aside0.mk hst
  clear hst hex
  have hmf : ∀ (fn : Fn) (first cap : Array Value) (w : World), (Instr.makeFunc fn first cap).run Tryd.prog w = .ok (.func fn first cap) w := fun _ _ _ _ => rfl
  go_enter Tryd.func35, Tryd.ntmps35
  go_wp2_with fail
  refine (writeByte_ok w.heap.size (w.heap.size + 1) [] 40 _ HI0.out HB0.out.size (by simp)).mono ?_
  rintro e w1 ⟨rfl, hi1, hb1, hk1⟩
  have hbx := hk1 w.heap.size _ ((heap_alloc_old _ _ (by simp)).trans (heap_alloc_new w (.cells #[.int .u64 m, .pointer p0] 46))) (not_XB (by decide) (by decide))
  have c0 : w1.cell? ⟨w.heap.size, 0, none⟩ = some (.int .u64 m) := by rw [Lib.cell_of_heap hbx]; rfl
  have c1 : w1.cell? ⟨w.heap.size, 1, none⟩ = some (.pointer p0) := by rw [Lib.cell_of_heap hbx]; rfl
  have HI1 := Aside0.mk hi1
  have HB1 := Aside0.mk (HB0.out.trans hb1)
  have hsz := HB1.out.size
  have hlt := heap_lt hbx
  have hb3 := below_alloc (below_alloc (below_alloc (Below.refl w1.heap.size w1) (.cells #[.func (.func 65) #[] #[.pointer (some ⟨w.heap.size + 1, 0, none⟩)]] 81)) (.cells #[.int .i64 (-1)] 3)) (.cells #[.int .i64 (-1)] 3)
  have d0 := (hb3.cell (p := ⟨w.heap.size, 0, none⟩) hlt).trans c0
  have d1 := (hb3.cell (p := ⟨w.heap.size, 1, none⟩) hlt).trans c1
  have HI3 : Aside0 (IV w (w.heap.size + 1) w1.heap.size st0 (((w1.alloc (.cells #[.func (.func 65) #[] #[.pointer (some ⟨w.heap.size + 1, 0, none⟩)]] 81)).alloc (.cells #[.int .i64 (-1)] 3)).alloc (.cells #[.int .i64 (-1)] 3))) := by
    refine ⟨⟨HI1.out.old hb3, ?_, ?_, ?_, below_then HB1.out HB1.out.size hb3⟩⟩
    · exact (heap_alloc_old _ _ (by simp; omega)).trans ((heap_alloc_old _ _ (by simp)).trans (heap_alloc_new _ _))
    · refine (heap_alloc_old _ _ (by simp)).trans ?_
      have h := heap_alloc_new (w1.alloc (.cells #[.func (.func 65) #[] #[.pointer (some ⟨w.heap.size + 1, 0, none⟩)]] 81)) (.cells #[.int .i64 (-1)] 3)
      rw [show (w1.alloc (.cells #[.func (.func 65) #[] #[.pointer (some ⟨w.heap.size + 1, 0, none⟩)]] 81)).heap.size = w1.heap.size + 1 by simp] at h
      exact h
    · have h := heap_alloc_new ((w1.alloc (.cells #[.func (.func 65) #[] #[.pointer (some ⟨w.heap.size + 1, 0, none⟩)]] 81)).alloc (.cells #[.int .i64 (-1)] 3)) (.cells #[.int .i64 (-1)] 3)
      rw [show ((w1.alloc (.cells #[.func (.func 65) #[] #[.pointer (some ⟨w.heap.size + 1, 0, none⟩)]] 81)).alloc (.cells #[.int .i64 (-1)] 3)).heap.size = w1.heap.size + 2 by simp] at h
      exact h
  have HB3 := Aside0.mk HI3.out.bel
  clear hi1 hb1 hk1 HI0 HB0 hbx hbox hb3
  have HFE := Aside0.mk (forEach_ok 69 _ XT w.heap.size l _ _ (HF.out (w.heap.size + 1) w1.heap.size (by omega)) HR.out hl _ HB3.out.size (fun W h => HG.out W (HB3.out.trans h)) (fun W h => HV.out W (HB3.out.trans h)) (by rw [List.take_zero]; exact HI3.out))
  rw [List.take_length] at HFE
  go_wp2_with fail
  refine HFE.out.mono ?_
  rintro e w4 ⟨rfl, hi4, hb4, hk4⟩
  have HI4 := Aside0.mk hi4
  have f4 := cell_of_one hi4.f4
  have f5 := cell_of_one hi4.c5
  have f6 := cell_of_one hi4.c6
  rw [HST.out] at HI4 HO f5 f6
  simp only at f5 f6
  have hO := HO.out
  unfold StOk at hO
  simp only at hO
  have HB4 := Aside0.mk HI4.out.bel
  have HI := Aside0.mk (show IB w.heap.size (w.heap.size + 1) bs w4 from HI4.out.buf)
  clear hi4 hb4 hk4 HI1 HB1 HI3 HB3 HFE HF HV HG HO d0 d1 HST
  by_cases h1 : rs = -1
  · subst h1
    go_wp2_with fail
    refine (writeByte_ok w.heap.size (w.heap.size + 1) bs 41 _ HI.out HB4.out.size (by omega)).mono ?_
    rintro e w5 ⟨rfl, hi5, hb5, hk5⟩
    have HI5 := Aside0.mk hi5
    have HB5 := Aside0.mk (HB4.out.trans hb5)
    clear hi5 hb5 hk5 HI HB4 HI4
    go_wp2_with fail
    refine (Tryd.Buffer_String _ _ _ _ HI5.out).mono ?_
    rintro e w6 ⟨rfl, n6, rfl⟩
    go_wp2_with fail
    refine bodyPost_ret (v := .string ⟨(bs ++ [41]).toArray⟩) (by simp [results, Tryd.results35]) rfl ?_
    exact ⟨rfl, pw_below_drewN HB5.out _⟩
  · have g1 : (rs != -1) = true := by simpa using h1
    have hr := hO.1.resolve_left h1
    have HR2 := Aside0.mk (range_ok w.heap.size (w.heap.size + 1) bs rs re w4 HI.out HB4.out.size (by omega) (fun W h => HT.out W (HB4.out.trans h)) ⟨hr.1, hr.2.1⟩ hr.2.2)
    have hls := sep_len bs
    have hlr := rg_len rs re ⟨hr.1, hr.2.1⟩ hr.2.2
    go_wp2_with fail
    refine HR2.out.mono ?_
    rintro e w7 ⟨rfl, hi7, hb7, hk7⟩
    have HI7 := Aside0.mk hi7
    have HB7 := Aside0.mk (HB4.out.trans hb7)
    clear hi7 hb7 hk7 HI HB4 HI4 HR2
    go_wp2_with fail
    refine (writeByte_ok w.heap.size (w.heap.size + 1) _ 41 _ HI7.out HB7.out.size (by rw [List.length_append]; omega)).mono ?_
    rintro e w5 ⟨rfl, hi5, hb5, hk5⟩
    have HI5 := Aside0.mk hi5
    have HB5 := Aside0.mk (HB7.out.trans hb5)
    clear hi5 hb5 hk5 HI7 HB7
    go_wp2_with fail
    refine (Tryd.Buffer_String _ _ _ _ HI5.out).mono ?_
    rintro e w6 ⟨rfl, n6, rfl⟩
    go_wp2_with fail
    refine bodyPost_ret (v := .string ⟨(sep bs ++ rg rs re ++ [41]).toArray⟩) (by simp [results, Tryd.results35]) rfl ?_
    exact ⟨by rw [List.append_assoc], pw_below_drewN HB5.out _⟩
end Go.Proofs.YtlghbhkpdlkhjaaDoor.PIS
namespace Go.Proofs.YtlghbhkpdlkhjaaDoor.PIT
set_option linter.unusedVariables false
open Go.RowKit Go.Proofs.YtlghbhkpdlkhjaaDoorW.PrintWords Go.Proofs.YtlghbhkpdlkhjaaDoorW.PrintLast Go.Proofs.YtlghbhkpdlkhjaaDoorW.PrintMore
open Go.Proofs.YtlghbhkpdlkhjaaDoor
def Glob (w : World) : Prop := PIS.Glob w ∧ PIS.Pow10 w
theorem Glob.later {w w' : World} (h : Glob w) (hb : Below w.heap.size w w') : Glob w' := ⟨h.1.later hb, h.2.later hb⟩
def impl_ISText.f (l0 : List Int) : Option ByteArray := if PIS.Rise l0 then some ⟨(PIS.textOf l0).toArray⟩ else none
theorem impl_ISText.calls (A0 : Option Addr) (c0 : Nat) (l0 : List Int) (r : ByteArray) (w : World) (hg : Glob w) (hr0 : Kd.C (Kd.int .i64) w A0 l0.length l0) (hc0 : l0.length ≤ c0) (h : impl_ISText.f l0 = some r) :
    Calls Tryd.prog 18 #[.slice A0 l0.length c0] w fun e w' => e = .returned (.string r) ∧ Below w.heap.size w w' := by
  unfold impl_ISText.f at h
  split at h
  · rename_i hR
    obtain rfl := Option.some.inj h
    have HN := Aside0.mk (PIS.new_ok A0 c0 l0 w hg.1 hr0 hR.2.2 hR.2.1)
    rw [PIS.ofL_rise hR] at HN
    have HS := Aside0.mk (fun v W (hb : Below w.heap.size w W) hv => PIS.string_ok l0 v W (hg.1.later hb) (hg.2.later hb) hv hR.2.1 (by have := hR.2.2; omega))
    generalize PIS.textOf l0 = t at *
    clear hg hr0
    go_enter Tryd.func18, Tryd.ntmps18
    go_wp2_with fail
    refine HN.out.mono ?_
    rintro e w1 ⟨v, rfl, hv, hb⟩
    have HS1 := Aside0.mk (HS.out v w1 hb hv)
    have HB1 := Aside0.mk hb
    clear HS HN hv hb
    go_wp2_with fail
    refine HS1.out.mono ?_
    rintro e w2 ⟨rfl, hb2⟩
    have HB2 := Aside0.mk (below_then HB1.out HB1.out.size hb2)
    clear HS1 HB1 hb2
    go_wp2_with fail
    refine bodyPost_ret (v := .string ⟨t.toArray⟩) (by simp [results, Tryd.results18]) rfl ?_
    exact ⟨rfl, HB2.out⟩
  · cases h
end Go.Proofs.YtlghbhkpdlkhjaaDoor.PIT
