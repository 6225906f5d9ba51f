/-
  Contracts of jsMade.byte and jsMade.word: the next byte, the next word of letters. Condition: every byte is from 0 to 255.
-/
import Derived.Test.YtlhaifbmacndeaaPJSat
import Derived.BigQuiet
import Derived.Deep.QuietTactic
import Derived.RegionTactic
import Derived.ChangeAlike
import Derived.LoopTactic
import Derived.BigCall
import Derived.Lib.Builder
namespace Go.Proofs.Ytlhaifbmacndeaa.PJS
open Go.RowKit Go.Proofs.YtlhaifbmacndeaaW.PrintWords Go.Proofs.YtlhaifbmacndeaaW.PrintLast Go.Proofs.YtlhaifbmacndeaaW.PrintMore
set_option linter.unusedVariables false
set_option linter.unusedSimpArgs false
set_option maxRecDepth 100000
set_option maxHeartbeats 400000

def byteF : List Int → Int × List Int
  | [] => (0, [])
  | x :: r => (x, r)
def okB (l : List Int) : Prop := ∀ x ∈ l, 0 ≤ x ∧ x < 256
theorem byteF_ok {l : List Int} (h : okB l) : okB (byteF l).2 ∧ 0 ≤ (byteF l).1 ∧ (byteF l).1 < 256 := by
  cases l with
  | nil => exact ⟨h, by decide, by decide⟩
  | cons x r => exact ⟨fun y hy => h y (List.mem_cons_of_mem _ hy), (h x List.mem_cons_self).1, (h x List.mem_cons_self).2⟩
theorem byteF_len (l : List Int) : (byteF l).2.length ≤ l.length := by cases l <;> simp [byteF]
theorem heap_set_at {w : World} {p t : Nat} {cs : Array Value} {f : Nat × Nat} (h : w.heap[p]? = some (.cells cs t f)) (o : Nat) (v : Value) : (w.setCell ⟨p, o, none⟩ v).heap[p]? = some (.cells (cs.setIfInBounds o v) t f) := by
  simp [World.setCell, h, Array.getElem?_modify]
/-- What is changed is block b, or new. -/
def Mv (b : Nat) (w w' : World) : Prop := Below b w w' ∧ KeepBut w w' b none
theorem Mv.refl (b : Nat) (w : World) : Mv b w w := ⟨Below.refl _ _, KeepBut.refl _ _ _⟩
theorem Mv.trans {b : Nat} {w w1 w2 : World} (h : Mv b w w1) (k : Mv b w1 w2) : Mv b w w2 := ⟨h.1.trans k.1, h.2.trans k.2 (.inl rfl)⟩
theorem Mv.of_below {b : Nat} {w w1 : World} (hb : b < w.heap.size) (h : Below w.heap.size w w1) : Mv b w w1 := ⟨h.mono (by omega), KeepBut.of_below h _ _⟩
/-- The maker behind a pointer: the bytes that are left, and a count. -/
def Mk (w : World) (b : Nat) (code : List Int) (left : Int) : Prop := ∃ (A : Option Addr) (k : Nat), w.heap[b]? = some (.cells #[.slice A code.length k, .int .i64 left] 45 (0, 0)) ∧ code.length ≤ k ∧ Kd.C (Kd.int .u8) w A code.length code ∧ ∀ ad, A = some ad → 0 < code.length → ad.block < b
theorem Mk.step {w w1 : World} {b : Nat} {code : List Int} {left : Int} (h : Mk w b code left) (hb : Below (b + 1) w w1) : Mk w1 b code left := by
  obtain ⟨A, k, h1, h2, h3, h4⟩ := h
  refine ⟨A, k, (hb.block b (by omega)).trans h1, h2, ?_, h4⟩
  have h5 := Kd.reads_of_C (d := (0 : Int)) h3
  refine Kd.C_of_reads (d := (0 : Int)) ⟨h5.1, h5.2.1, fun hn => ?_⟩
  obtain ⟨ad, e, hc⟩ := h5.2.2 hn
  have := h4 ad e hn
  exact ⟨ad, e, fun j hj => (hb.cell (p := ad.add j) (by rw [add_block]; omega)).trans (hc j hj)⟩
theorem Mk.put {w : World} {b : Nat} {code r : List Int} {left : Int} (h : Mk w b code left) {A : Option Addr} {k : Nat} (hk : r.length ≤ k) (hr : Kd.C (Kd.int .u8) w A r.length r) (ha : ∀ ad, A = some ad → 0 < r.length → ad.block < b) :
    Mk (w.setCell ⟨b, 0, none⟩ (.slice A r.length k)) b r left ∧ Mv b w (w.setCell ⟨b, 0, none⟩ (.slice A r.length k)) := by
  obtain ⟨A0, k0, h1, _⟩ := h
  have hm : Mv b w (w.setCell ⟨b, 0, none⟩ (.slice A r.length k)) := ⟨(Below.refl b w).setCell (Nat.le_refl _) _, (KeepBut.refl w b none).set_ 0 _⟩
  refine ⟨⟨A, k, heap_set_at h1 0 _, hk, ?_, ha⟩, hm⟩
  have h5 := Kd.reads_of_C (d := (0 : Int)) hr
  refine Kd.C_of_reads (d := (0 : Int)) ⟨h5.1, h5.2.1, fun hn => ?_⟩
  obtain ⟨ad, e, hc⟩ := h5.2.2 hn
  have := ha ad e hn
  exact ⟨ad, e, fun j hj => (hm.1.cell (p := ad.add j) (by rw [add_block]; omega)).trans (hc j hj)⟩

theorem byte_ok (b : Nat) (code : List Int) (left : Int) (w : World) (hM : Mk w b code left) (hc : okB code) :
    Calls Try.prog 24 #[.pointer (some ⟨b, 0, none⟩)] w fun e w' => e = .returned (.int .i64 (byteF code).1) ∧ Mk w' b (byteF code).2 left ∧ Mv b w w' := by
  obtain ⟨A, k, h1, h2, h3, h4⟩ := hM
  have c0 : w.cell? ⟨b, 0, none⟩ = some (.slice A code.length k) := by rw [Lib.cell_of_heap h1]; rfl
  have c1 : w.cell? ⟨b, 1, none⟩ = some (.int .i64 left) := by rw [Lib.cell_of_heap h1]; rfl
  have z0 : w.frozen? ⟨b, 0, none⟩ = false := Lib.frozen_of_heap h1 _
  have hbw : b < w.heap.size := blk_lt h1
  cases code with
  | nil =>
    have c0' : w.cell? ⟨b, 0, none⟩ = some (.slice A 0 k) := c0
    clear c0
    have HH := Aside0.mk h1
    have H3 := Aside0.mk h3
    have H4 := Aside0.mk h4
    clear h1 h3 h4 hc
    go_enter Try.func24, Try.ntmps24
    go_wp2
    go_ret
    exact ⟨rfl, ⟨A, k, HH.out, h2, H3.out, H4.out⟩, Mv.refl _ _⟩
  | cons x r =>
    have hx := hc x List.mem_cons_self
    obtain ⟨ad, hA, hcell⟩ : ∃ ad, A = some ad ∧ w.cell? ad = some (.int .u8 x) := by
      obtain ⟨ad, c, e, _, hK, hc0⟩ := Kd.C_get h3 (0 : Int) 0 (Int.le_refl 0) (by simp)
      obtain rfl : c = [.int .u8 x] := hK
      have := hc0 0 _ rfl
      exact ⟨ad, e, by have h := this; rwa [show ad.add (((0 : Int)).toNat * (Kd.int .u8).sz + 0) = ad from rfl] at h⟩
    subst hA
    have hd := Kd.C_drop (m := 1) (c := k) h3 (Nat.succ_le_succ (Nat.zero_le _)) h2
    have hw1 : IntKind.i64.wrap x = x := by unfold IntKind.wrap; simp [IntKind.bits, IntKind.signed]; omega
    have c0' : w.cell? ⟨b, 0, none⟩ = some (.slice (some ad) (r.length + 1) k) := c0
    have h2' : r.length + 1 ≤ k := h2
    clear c0
    have HH := Aside0.mk h1
    have H3 := Aside0.mk h3
    have H4 := Aside0.mk h4
    have HD := Aside0.mk hd
    clear h1 h3 h4 hc hd h2
    go_enter Try.func24, Try.ntmps24
    go_wp2
    all_goals
      go_ret
      refine ⟨rfl, ?_⟩
      first
        | exact Mk.put (r := r) ⟨_, _, HH.out, h2', H3.out, H4.out⟩ (by omega) (by have h := HD.out; rw [if_neg (by assumption)] at h; exact h) (fun ad1 e _ => by cases e; exact H4.out ad rfl (by simp))
        | exact Mk.put (r := r) ⟨_, _, HH.out, h2', H3.out, H4.out⟩ (by omega) (by have h := HD.out; rw [if_pos (by assumption)] at h; exact h) (fun ad1 e _ => by cases e; exact H4.out ad rfl (by simp))

def abc : ByteArray := ⟨#[97, 98, 99, 100, 101, 102, 103, 104, 105, 106, 107, 108, 109, 110, 111, 112, 113, 114, 115, 116, 117, 118, 119, 120, 121, 122, 65, 66, 67, 68, 69, 70, 71, 72, 73, 74, 75, 76, 77, 78, 79, 80, 81, 82, 83, 84, 85, 86, 87, 88, 89, 90, 32, 48, 49, 50, 51, 52, 53, 54, 55, 56, 57]⟩
def letter (c : Int) : ByteArray := abc.extract (c % 63).toNat ((c % 63).toNat + 1)
def wordL : Nat → List Int → ByteArray → ByteArray × List Int
  | 0, c, s => (s, c)
  | n + 1, c, s => wordL n (byteF c).2 (s ++ letter (byteF c).1)
def wordF (c : List Int) : ByteArray × List Int := wordL ((byteF c).1 % 7).toNat (byteF c).2 ⟨#[]⟩
theorem wordL_ok : ∀ (n : Nat) (c : List Int) (s : ByteArray), okB c → okB (wordL n c s).2
  | 0, c, s, h => h
  | n + 1, c, s, h => wordL_ok n _ _ (byteF_ok h).1
theorem letter_size (c : Int) : (letter c).size ≤ 1 := by
  unfold letter
  rw [ByteArray.size_extract]
  omega
theorem letter_slice (y : Nat) (W : World) : (Instr.slice 9 (.string abc) (some (.int .i64 ((y : Int) % 63))) (some (.int .i64 ((y : Int) % 63 + 1))) none).run Try.prog W = .ok (.string (letter (y : Int))) W := by
  have hs : abc.size = 63 := rfl
  rw [run_slice_string W 9 abc .i64 .i64 _ _ Try.underlying9 (by omega) (by omega) (by rw [hs]; omega)]
  unfold letter
  congr 3
/-- The next byte, as a natural number. -/
theorem byte_nat {code : List Int} (hc : okB code) (b : Nat) (left : Int) : ∃ (x : Nat) (c1 : List Int), byteF code = ((x : Int), c1) ∧ x < 256 ∧ okB c1 ∧ ∀ W, Mk W b code left → Calls Try.prog 24 #[.pointer (some ⟨b, 0, none⟩)] W fun e w' => e = .returned (.int .i64 (x : Int)) ∧ Mk w' b c1 left ∧ Mv b W w' := by
  obtain ⟨h1, h2, h3⟩ := byteF_ok hc
  obtain ⟨x, hx⟩ : ∃ x : Nat, (byteF code).1 = x := ⟨(byteF code).1.toNat, by omega⟩
  refine ⟨x, (byteF code).2, by rw [← hx], by omega, h1, fun W hW => ?_⟩
  rw [← hx]
  exact byte_ok b code left W hW hc
theorem word_ok (b : Nat) (code : List Int) (left : Int) (w : World) (hM : Mk w b code left) (hc : okB code) :
    Calls Try.prog 25 #[.pointer (some ⟨b, 0, none⟩)] w fun e w' => e = .returned (.string (wordF code).1) ∧ Mk w' b (wordF code).2 left ∧ Mv b w w' := by
  obtain ⟨x, c1, hF, hx, hc1, hB⟩ := byte_nat hc b left
  have hR : wordF code = wordL (x % 7) c1 ⟨#[]⟩ := by
    unfold wordF
    rw [hF]
    rfl
  rw [hR]
  have HM := Aside0.mk hM
  have HB := Aside0.mk hB
  have HC1 := Aside0.mk hc1
  have hb0 : 0 ≤ (x : Int) := by omega
  clear hM hc hB hc1 hF hR
  generalize hgo : wordL (x % 7) c1 ⟨#[]⟩ = R at *
  go_enter Try.func25, Try.ntmps25
  go_wp2_with fail
  refine (HB.out w HM.out).mono ?_
  rintro e w1 ⟨rfl, hM1, hm1⟩
  have HM1 := Aside0.mk hM1
  have HV1 := Aside0.mk hm1
  clear hM1 hm1
  go_wp2_with fail
  go_loopw [3, 4] (fun t n wr => ∃ (k : Nat) (s : ByteArray) (c : List Int), t = .string s ∧ n = .int .i64 (k : Int) ∧ k ≤ 6 ∧ s.size + k ≤ 6 ∧ Aside0 (wordL k c s = R) ∧ Aside0 (okB c) ∧ Aside0 (Mk wr b c left) ∧ Aside0 (Mv b w wr)) (fun _ n _ => (intOf n).toNat)
  case atStart =>
    refine ⟨x % 7, ⟨#[]⟩, c1, rfl, by rw [Int.natCast_emod]; rfl, by omega, by have : (⟨#[]⟩ : ByteArray).size = 0 := rfl; omega, ⟨hgo⟩, HC1, HM1, HV1⟩
  case round =>
    obtain ⟨k, s, c, rfl, rfl, hk, hs, HG, HC, HM2, HV2⟩ := hrel
    cases k with
    | zero =>
      have hE : (s, c) = R := HG.out
      subst hE
      go_wp2_with fail
      go_ret
      exact ⟨rfl, HM2.out, HV2.out⟩
    | succ k =>
      obtain ⟨y, c2, hF2, hy, hc2, hB2⟩ := byte_nat HC.out b left
      have HB2 := Aside0.mk hB2
      have HC2 := Aside0.mk hc2
      have HG2 : Aside0 (wordL k c2 (s ++ letter (y : Int)) = R) := ⟨by have h := HG.out; unfold wordL at h; rw [hF2] at h; exact h⟩
      have hb2 : 0 ≤ (y : Int) := by omega
      have hl := letter_size (y : Int)
      have hsl := letter_slice y
      unfold abc at hsl
      generalize letter (y : Int) = ly at *
      clear hB2 hc2 hF2 HG HC
      go_wp2_with fail
      refine (HB2.out wr HM2.out).mono ?_
      rintro e w2 ⟨rfl, hM3, hm3⟩
      have HM3 := Aside0.mk hM3
      have HV3 := Aside0.mk (HV2.out.trans hm3)
      clear hM3 hm3 HV2 HM2 HB2 HB HM HM1 HV1 HC1
      go_wp2_with fail
      go_roundw
      case rel => exact ⟨k, s ++ ly, c2, rfl, by first | rfl | go_num, by omega, by rw [ByteArray.size_append]; omega, HG2, HC2, HM3, HV3⟩
      case measure => simp [intOf]

end Go.Proofs.Ytlhaifbmacndeaa.PJS
