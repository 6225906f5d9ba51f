/-
  Contract of the package's Unquote at a text that is made of plain characters, and of quotation marks and backslashes behind a backslash each, between two quotation marks. Condition: at most 1000 pieces.
-/
import Derived.Test.YthicaehcoingeaaDoorPTQ0
import Derived.Test.YthicaehcoingeaaDoorShelfQ
import Derived.LoopTactic
import Derived.RegionTactic
import Derived.WalkSpells
namespace Go.Proofs.YthicaehcoingeaaDoor.PTQ
open Go.RowKit Go.Proofs.YthicaehcoingeaaDoorW.PrintWords Go.Proofs.YthicaehcoingeaaDoorW.PrintLast Go.Proofs.YthicaehcoingeaaDoorW.PrintMore
set_option linter.unusedVariables false
set_option linter.unusedSimpArgs false
set_option maxRecDepth 100000

def enc (p : Bool × UInt8) : List UInt8 := if p.1 then [92, p.2] else [p.2]
def encs (ps : List (Bool × UInt8)) : List UInt8 := ps.flatMap enc
def Fine (p : Bool × UInt8) : Prop := if p.1 then p.2 = 34 ∨ p.2 = 92 else p.2 ≠ 92
/-- How far the text has been read behind j pieces. -/
def upto (ps : List (Bool × UInt8)) (j : Nat) : Nat := (encs (ps.take j)).length
theorem encs_app (a b : List (Bool × UInt8)) : encs (a ++ b) = encs a ++ encs b := by simp [encs]
theorem upto_all (ps : List (Bool × UInt8)) (s : ByteArray) (hs : s.data.toList = encs ps) : upto ps ps.length = s.size := by
  unfold upto; rw [List.take_length, ← hs]; rfl
theorem split_at (ps : List (Bool × UInt8)) (j : Nat) (hj : j < ps.length) : encs ps = encs (ps.take j) ++ (enc ps[j] ++ encs (ps.drop (j + 1))) := by
  have e : ps = ps.take j ++ (ps[j] :: ps.drop (j + 1)) := by rw [← List.drop_eq_getElem_cons hj, List.take_append_drop]
  conv => lhs; rw [e]
  rw [encs_app]; rfl
theorem upto_step (ps : List (Bool × UInt8)) (j : Nat) (hj : j < ps.length) : upto ps (j + 1) = upto ps j + (enc ps[j]).length := by
  unfold upto
  rw [List.take_succ_eq_append_getElem hj, encs_app, List.length_append]
  simp [encs]
theorem ba_get (s : ByteArray) (l : List UInt8) (hs : s.data.toList = l) (i : Nat) (h : i < s.size) (x : UInt8) (hx : l[i]? = some x) : s[i] = x := by
  subst hs
  have e : s.data.toList[i]? = some s[i] := by
    rw [List.getElem?_eq_getElem (by exact h)]; rfl
  rw [e] at hx
  exact Option.some.inj hx
theorem at_raw (ps : List (Bool × UInt8)) (s : ByteArray) (hs : s.data.toList = encs ps) (j : Nat) (hj : j < ps.length) (hp : ps[j].1 = false) : ∃ h : upto ps j < s.size, s[upto ps j] = ps[j].2 := by
  have e := split_at ps j hj
  have hl : s.size = (encs ps).length := by rw [← hs]; rfl
  have he : enc ps[j] = [ps[j].2] := by simp [enc, hp]
  have h : upto ps j < s.size := by rw [hl, e, he]; simp [upto]
  refine ⟨h, ba_get s _ hs _ h _ ?_⟩
  rw [e, he, List.getElem?_append_right (by unfold upto; omega)]
  simp [upto]
theorem at_esc (ps : List (Bool × UInt8)) (s : ByteArray) (hs : s.data.toList = encs ps) (j : Nat) (hj : j < ps.length) (hp : ps[j].1 = true) : ∃ (h : upto ps j < s.size) (h1 : upto ps j + 1 < s.size), s[upto ps j] = 92 ∧ s[upto ps j + 1] = ps[j].2 := by
  have e := split_at ps j hj
  have hl : s.size = (encs ps).length := by rw [← hs]; rfl
  have he : enc ps[j] = [92, ps[j].2] := by simp [enc, hp]
  have h1 : upto ps j + 1 < s.size := by rw [hl, e, he]; simp [upto]
  refine ⟨by omega, h1, ba_get s _ hs _ (by omega) _ ?_, ba_get s _ hs _ h1 _ ?_⟩
  · rw [e, he, List.getElem?_append_right (by unfold upto; omega)]; simp [upto]
  · rw [e, he, List.getElem?_append_right (by unfold upto; omega)]; simp [upto]

structure UAt (ps : List (Bool × UInt8)) (w : World) (j : Nat) (wr : World) : Prop where
  buf : Lib.IsBuffer 120 5 w.heap.size w.heap.size (Lib.byteCells ((ps.take j).map (·.2))) wr
  below : Below w.heap.size w wr
theorem UAt.next {ps : List (Bool × UInt8)} {w wr w1 : World} {j : Nat} (h : UAt ps w j wr) (hj : j < ps.length) {c : Int} (hc : c = ps[j].2.toNat) (hb : Lib.IsBuffer 120 5 w.heap.size w.heap.size (Lib.byteCells ((ps.take j).map (·.2)) ++ [.int .u8 c]) w1) (hbel : Below w.heap.size wr w1) : UAt ps w (j + 1) w1 := by
  subst hc
  refine ⟨?_, h.below.trans hbel⟩
  have e : Lib.byteCells ((ps.take (j + 1)).map (·.2)) = Lib.byteCells ((ps.take j).map (·.2)) ++ [.int .u8 ps[j].2.toNat] := by
    rw [List.take_succ_eq_append_getElem hj, List.map_append, Lib.byteCells_append]
    rfl
  rw [e]
  exact hb
theorem UAt.len {ps : List (Bool × UInt8)} (j : Nat) (hl : ps.length ≤ 1000) : (Lib.byteCells ((ps.take j).map (·.2))).length ≤ 1000 := by
  rw [Lib.byteCells_length]; simp; omega

theorem strip_eq (R : ByteArray) (l : List UInt8) (h : R.data.toList = [34] ++ l ++ [34]) : R.extract 1 (R.size - 1) = ⟨l.toArray⟩ := by
  have hz : R.size = l.length + 2 := by
    have : R.size = R.data.toList.length := rfl
    rw [this, h]; simp
  have e : (R.extract 1 (R.size - 1)).data.toList = l := by
    have e1 : (R.extract 1 (R.size - 1)).data.toList = (R.data.toList.drop 1).take (R.size - 1 - 1) := by simp
    rw [e1, h, hz]; simp
  cases hR : R.extract 1 (R.size - 1) with
  | mk d =>
    rw [hR] at e
    simp only [ByteArray.mk.injEq]
    rw [← e]
set_option maxHeartbeats 4000000 in
theorem unquote_ok (ps : List (Bool × UInt8)) (l : List UInt8) (s : ByteArray) (w : World) (hs : s.data.toList = encs ps) (hl : ps.length ≤ 1000) (hf : ∀ p ∈ ps, Fine p) (hv : ps.map (·.2) = [34] ++ l ++ [34]) :
    Calls Tryd.prog 64 #[.string s] w fun e w' => e = .returned (.tuple #[.string ⟨l.toArray⟩, .nilIface]) ∧ Below w.heap.size w w' := by
  have HS := Aside0.mk hs
  have HF := Aside0.mk hf
  have HV := Aside0.mk hv
  have hsz : s.size ≤ 2000 := by
    have h1 := upto_all ps s hs
    have h2 : ∀ q : List (Bool × UInt8), (encs q).length ≤ 2 * q.length := by
      intro q
      induction q with
      | nil => simp [encs]
      | cons p r ih =>
        have h : (enc p).length ≤ 2 := by unfold enc; split <;> simp
        simp only [encs, List.flatMap_cons, List.length_append, List.length_cons] at ih ⊢
        omega
    have h3 := h2 ps
    rw [← h1]; unfold upto; rw [List.take_length]; omega
  clear hs hf hv
  go_enter Tryd.func64, Tryd.ntmps64
  go_wp2_with fail
  go_loopw [5] (fun i wr => ∃ j : Nat, j ≤ ps.length ∧ i = .int .i64 (upto ps j) ∧ Aside0 (UAt ps w j wr)) (fun i _ => s.size - (intOf i).toNat)
  case atStart => exact ⟨0, Nat.zero_le _, rfl, ⟨⟨by simpa [Lib.byteCells] using Lib.fresh_isBuffer 120 5 w, below_alloc (Below.refl _ _) _⟩⟩⟩
  case round =>
    obtain ⟨j, hj, rfl, HA⟩ := hrel
    by_cases hlt : j < ps.length
    · have hstep := Lib.hid (upto_step ps j hlt)
      have hfine := HF.out ps[j] (List.getElem_mem hlt)
      by_cases hp : ps[j].1 = true
      · obtain ⟨h0, h1, e0, e1⟩ := at_esc ps s HS.out j hlt hp
        have hn : (enc ps[j]).length = 2 := by simp [enc, hp]
        have HE := Lib.hid (hstep.out.trans (congrArg (upto ps j + ·) hn))
        clear hstep hn
        generalize hi : upto ps j = i at *
        have q0 : (s[i].toNat : Int) = 92 := by rw [e0]; rfl
        rcases (show ps[j].2 = 34 ∨ ps[j].2 = 92 by simpa [Fine, hp] using hfine) with hx | hx
        · have q1 : (s[i + 1].toNat : Int) = 34 := by rw [e1, hx]; rfl
          have HX := Lib.hid (show (34 : Int) = ps[j].2.toNat by rw [hx]; rfl)
          clear e0 e1 hx hfine hi hp
          go_wp2_with fail
          refine (Tryd.Buffer_WriteByte w.heap.size w.heap.size _ 34 _ HA.out.buf HA.out.below.size (Lib.byteCells_one _) (by have := UAt.len j hl; omega)).mono ?_
          rintro e W2 ⟨rfl, h2, b2⟩
          have HN := Aside0.mk (HA.out.next hlt HX.out h2 b2)
          clear h2 b2 HA
          go_wp2_with fail
          go_roundw
          case rel => exact ⟨j + 1, by omega, by rw [HE.out]; go_num, HN⟩
          case measure => simp [intOf]; omega
        · have q1 : (s[i + 1].toNat : Int) = 92 := by rw [e1, hx]; rfl
          have HX := Lib.hid (show (92 : Int) = ps[j].2.toNat by rw [hx]; rfl)
          clear e0 e1 hx hfine hi hp
          go_wp2_with fail
          refine (Tryd.Buffer_WriteByte w.heap.size w.heap.size _ 92 _ HA.out.buf HA.out.below.size (Lib.byteCells_one _) (by have := UAt.len j hl; omega)).mono ?_
          rintro e W2 ⟨rfl, h2, b2⟩
          have HN := Aside0.mk (HA.out.next hlt HX.out h2 b2)
          clear h2 b2 HA
          go_wp2_with fail
          go_roundw
          case rel => exact ⟨j + 1, by omega, by rw [HE.out]; go_num, HN⟩
          case measure => simp [intOf]; omega
      · have hp2 : ps[j].1 = false := by simpa using hp
        obtain ⟨h0, e0⟩ := at_raw ps s HS.out j hlt hp2
        have hn : (enc ps[j]).length = 1 := by simp [enc, hp2]
        have HE := Lib.hid (hstep.out.trans (congrArg (upto ps j + ·) hn))
        have hne : ps[j].2 ≠ 92 := by simpa [Fine, hp2] using hfine
        clear hstep hn hp hp2 hfine
        generalize hi : upto ps j = i at *
        have q0 : ((s[i].toNat : Int) == 92) = false := by
          rw [e0]; simp only [beq_eq_false_iff_ne]; intro q; apply hne; apply UInt8.toNat_inj.1; exact Int.ofNat_inj.1 q
        have HX := Lib.hid (show (s[i].toNat : Int) = ps[j].2.toNat by rw [e0])
        clear e0 hi hne
        go_wp2_with fail
        refine (Tryd.Buffer_WriteByte w.heap.size w.heap.size _ (s[i].toNat : Int) _ HA.out.buf HA.out.below.size (Lib.byteCells_one _) (by have := UAt.len j hl; omega)).mono ?_
        rintro e W2 ⟨rfl, h2, b2⟩
        have HN := Aside0.mk (HA.out.next hlt HX.out h2 b2)
        clear h2 b2 HA
        go_wp2_with fail
        go_roundw
        case rel => exact ⟨j + 1, by omega, by rw [HE.out]; go_num, HN⟩
        case measure => simp [intOf]; omega
    · obtain rfl : j = ps.length := by omega
      have hend := Lib.hid (upto_all ps s HS.out)
      generalize hi : upto ps ps.length = i at *
      obtain rfl : i = s.size := hend.out
      clear hend hi hlt
      go_wp2_with fail
      have hb := HA.out.buf
      rw [List.take_length, HV.out] at hb
      obtain ⟨R, hR⟩ : ∃ R : ByteArray, R = ⟨([34] ++ l ++ [34]).toArray⟩ := ⟨_, rfl⟩
      have hR2 : R.data.toList = [34] ++ l ++ [34] := by rw [hR]
      have hRs : R.size = l.length + 2 := by rw [hR]; simp [ByteArray.size]
      have hl2 : l.length ≤ 1000 := by have := congrArg List.length HV.out; simp at this; omega
      have hR3 : 2 ≤ R.size := by omega
      have hR4 : R.size ≤ 1002 := by omega
      have HRs := Lib.hid hRs
      clear hRs
      have r0 : (R[0].toNat : Int) = 34 := by rw [ba_get R _ hR2 0 (by omega) 34 (by simp)]; rfl
      have r1 : ((R[R.size - 1]'(by omega)).toNat : Int) = 34 := by rw [ba_get R _ hR2 (R.size - 1) (by omega) 34 (by rw [HRs.out]; simp)]; rfl
      have HB := Aside0.mk HA.out.below
      have HR := Lib.hid hR2
      refine (Tryd.Buffer_String w.heap.size w.heap.size _ _ hb).mono ?_
      rintro e W4 ⟨he, n, rfl⟩
      rw [← hR] at he
      subst he
      clear hR hR2 hb HA HS HF HV
      go_wp2
      go_region
      have q1 : (1 : Int) ≤ (R.size : Int) - 1 := by omega
      have q2 : (2 : Int) ≤ (R.size : Int) := by omega
      have q3 : ((R.size : Int) - 1).toNat = R.size - 1 := by omega
      go_wp2
      go_ret2
      have hx := strip_eq R l HR.out
      exact ⟨by rw [hx]; rfl, pw_below_drewN HB.out (n + 1)⟩
end Go.Proofs.YthicaehcoingeaaDoor.PTQ
