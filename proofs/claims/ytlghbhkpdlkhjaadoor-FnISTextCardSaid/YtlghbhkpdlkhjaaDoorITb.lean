/-
  Contract of the function that FastIntSet.String writes a run with (String$1), over the contracts of bytes.Buffer and strconv.Itoa. Condition: numbers from 0 to 1001, a text of at most 100000 bytes.
-/
import Derived.Test.YtlghbhkpdlkhjaaDoorITa
import Derived.Test.YtlghbhkpdlkhjaaDoorShelfY
import Derived.Lib.BufferOld
import Derived.Lib.ItoaLen
import Derived.Lib.ItoaMem
import Derived.Lib.SmallJoins
import Derived.OneCell
import Derived.Lib.AppendIntMem
namespace Go.Proofs.YtlghbhkpdlkhjaaDoor.PIS
open Go.RowKit Go.Proofs.YtlghbhkpdlkhjaaDoorW.PrintWords Go.Proofs.YtlghbhkpdlkhjaaDoorW.PrintLast Go.Proofs.YtlghbhkpdlkhjaaDoorW.PrintMore
set_option linter.unusedVariables false
set_option linter.unusedSimpArgs false
set_option maxRecDepth 100000
set_option maxHeartbeats 400000

def Pow10 (w : World) : Prop := Lib.TabIs Tryd.prog w "internal/strconv.uint64pow10" .u64 Lib.pow10Tab
theorem Pow10.later {w w' : World} (h : Pow10 w) (hb : Below w.heap.size w w') : Pow10 w' := Lib.tabBelow_of_tabIs h w' hb
theorem Kept.mono {X Y : Nat → Obj → Prop} {w w' : World} (h : Kept X w w') (hx : ∀ k o, X k o → Y k o) : Kept Y w w' := fun k o hk hy => h k o hk (fun e => hy (hx k o e))
/-- a buffer's own blocks -/
def XB : Nat → Obj → Prop := fun _ o => ∃ c t fz, o = .cells c t fz ∧ (t = 94 ∨ t = 5)
def IB (B b : Nat) (l : List UInt8) (w : World) : Prop := Lib.IsBuffer 94 5 B b (Lib.byteCells l) w
theorem IB.old {B b : Nat} {l : List UInt8} {w w' : World} (h : IB B b l w) (hb : Below w.heap.size w w') : IB B b l w' := Lib.IsBuffer.old h hb
theorem IB.kept {B b : Nat} {l : List UInt8} {w w' : World} (h : IB B b l w) (hk : Lib.OthersKept 5 (some b) w w') : Kept XB w w' := by
  obtain ⟨_, v, lr, hb, _⟩ := h
  intro k o ho hx
  refine hk k o ho (fun e => ?_) (fun c fz e => hx ⟨c, 5, fz, e, .inr rfl⟩)
  obtain rfl : k = b := Option.some.inj e
  rw [hb] at ho
  exact hx ⟨_, 94, _, (Option.some.inj ho).symm, .inl rfl⟩
theorem cells_one (l : List UInt8) : ∀ v ∈ Lib.byteCells l, v.oneCell' = true := Lib.byteCells_one l
theorem writeByte_ok (B b : Nat) (l : List UInt8) (c : UInt8) (w : World) (h : IB B b l w) (hB : B ≤ w.heap.size) (hl : l.length ≤ 100000) :
    Calls Tryd.prog 64 #[.pointer (some ⟨b, 0, none⟩), .int .u8 c.toNat] w fun e w' => e = .returned .nilIface ∧ IB B b (l ++ [c]) w' ∧ Below B w w' ∧ Kept XB w w' := by
  refine (Tryd.Buffer_WriteByte_kept B b (Lib.byteCells l) c.toNat w h hB (cells_one l) (by rw [Lib.byteCells_length]; omega)).mono ?_
  rintro e w' ⟨h1, h2, h3, h4⟩
  refine ⟨h1, ?_, h3, h.kept h4⟩
  unfold IB
  rw [show Lib.byteCells (l ++ [c]) = Lib.byteCells l ++ [.int .u8 c.toNat] by simp [Lib.byteCells]]
  exact h2
theorem writeString_ok (B b : Nat) (l : List UInt8) (s : ByteArray) (w : World) (h : IB B b l w) (hB : B ≤ w.heap.size) (hl : l.length ≤ 100001) (hs : s.size ≤ 1000) :
    Calls Tryd.prog 67 #[.pointer (some ⟨b, 0, none⟩), .string s] w fun e w' => e = .returned (.tuple #[.int .i64 s.size, .nilIface]) ∧ IB B b (l ++ s.data.toList) w' ∧ Below B w w' ∧ Kept XB w w' := by
  refine (Tryd.Buffer_WriteString_kept B b (Lib.byteCells l) s w h hB (cells_one l) (by rw [Lib.byteCells_length]; omega)).mono ?_
  rintro e w' ⟨h1, h2, h3, h4⟩
  refine ⟨h1, ?_, h3, h.kept h4⟩
  unfold IB
  rw [show Lib.byteCells (l ++ s.data.toList) = Lib.byteCells l ++ Lib.byteCells s.data.toList by simp [Lib.byteCells]]
  exact h2
theorem len_ok (B b : Nat) (l : List UInt8) (w : World) (h : IB B b l w) :
    Calls Tryd.prog 66 #[.pointer (some ⟨b, 0, none⟩)] w fun e w' => e = .returned (.int .i64 l.length) ∧ Below w.heap.size w w' := by
  refine (Tryd.Buffer_Len B b (Lib.byteCells l) w h).mono ?_
  rintro e w' ⟨h1, n, rfl⟩
  exact ⟨by rw [h1, Lib.byteCells_length], pw_below_drewN (Below.refl _ _) _⟩
theorem itoa_ok (n : Int) (w : World) (ht : Pow10 w) (h0 : 0 ≤ n) (h1 : n ≤ 1001) :
    Calls Tryd.prog 68 #[.int .i64 n] w fun e w' => e = .returned (.string ⟨(Lib.itoa n).toArray⟩) ∧ Below w.heap.size w w' := by
  refine (Tryd.strconv_Itoa n (by omega) (by omega) w ht).mono ?_
  rintro e w' ⟨rfl, k, os, rfl⟩
  exact ⟨rfl, ⟨rfl, rfl, rfl, by simp [Go.Sort.grow], fun i hi => Go.Sort.heap_grow_old (w.drewN k) os hi⟩⟩
theorem sz (l : List UInt8) : (⟨l.toArray⟩ : ByteArray).size = l.length := by show l.toArray.size = _; simp
theorem sz1 (c : UInt8) : (⟨#[c]⟩ : ByteArray).size = 1 := rfl
theorem cat3 (a b : List UInt8) (c : UInt8) : ((⟨a.toArray⟩ : ByteArray) ++ ⟨#[c]⟩ ++ ⟨b.toArray⟩).data.toList = a ++ [c] ++ b := by
  simp [ByteArray.data_append]
def sep (l : List UInt8) : List UInt8 := if l.length > 1 then l ++ [44] else l
def rg (s e : Int) : List UInt8 := if s = e then Lib.itoa s else if s + 1 = e then Lib.itoa s ++ [44] ++ Lib.itoa e else Lib.itoa s ++ [45] ++ Lib.itoa e
set_option maxHeartbeats 2000000 in
theorem range_ok (B b : Nat) (l : List UInt8) (s e : Int) (w : World) (h : IB B b l w) (hBw : B ≤ w.heap.size) (hl0 : l.length ≤ 90000) (hT : ∀ W, Below B w W → Pow10 W) (hs : 0 ≤ s ∧ s ≤ 1000) (he : 0 ≤ e ∧ e ≤ 1000) :
    Calls Tryd.prog 65 #[.int .i64 s, .int .i64 e, .pointer (some ⟨b, 0, none⟩)] w fun e' w' => e' = .returned (.tuple #[]) ∧ IB B b (sep l ++ rg s e) w' ∧ Below B w w' ∧ Kept XB w w' := by
  have ls := Lib.itoa_length_le s (by omega) (by omega)
  have le := Lib.itoa_length_le e (by omega) (by omega)
  have HT := Aside0.mk hT
  have H0 := Aside0.mk h
  clear hT h
  go_enter Tryd.func65, Tryd.ntmps65
  go_wp2_with fail
  refine (len_ok B b l w H0.out).mono ?_
  rintro e0 w1 ⟨rfl, hb1⟩
  have HI := Aside0.mk (H0.out.old hb1)
  have HB := Aside0.mk (Below.mono hb1 hBw)
  have HK := Aside0.mk (Kept.below (X := XB) hb1)
  clear hb1 H0
  by_cases hl : l.length > 1
  · go_wp2_with fail
    refine (writeByte_ok B b l 44 _ HI.out (Nat.le_trans hBw HB.out.size) (by omega)).mono ?_
    rintro e0 w2 ⟨rfl, hi2, hb2, hk2⟩
    replace HI := Aside0.mk hi2
    replace HB := Aside0.mk (HB.out.trans hb2)
    replace HK := Aside0.mk (HK.out.trans hk2)
    have hl2 : (l ++ [44]).length ≤ 90001 := by simp; omega
    clear hi2 hb2 hk2
    by_cases h1 : s = e
    · subst h1
      go_wp2_with fail
      refine (itoa_ok s _ (HT.out _ HB.out) hs.1 (by omega)).mono ?_
      rintro e1 w3 ⟨rfl, hb3⟩
      have hi3 := HI.out.old hb3
      have HB3 := Aside0.mk (below_then HB.out (Nat.le_trans hBw HB.out.size) hb3)
      have HK3 := Aside0.mk (HK.out.trans (Kept.below hb3))
      go_wp2_with fail
      refine (writeString_ok B b _ _ _ hi3 (Nat.le_trans hBw HB3.out.size) (by omega) (by (try simp only [ByteArray.size_append]); (try simp only [sz, sz1, List.length_cons, List.length_nil]); omega)).mono ?_
      rintro e1 w4 ⟨rfl, hi4, hb4, hk4⟩
      have HI4 := Aside0.mk hi4
      have HB4 := Aside0.mk (HB3.out.trans hb4)
      have HK4 := Aside0.mk (HK3.out.trans hk4)
      clear hi3 hi4 hb4 hk4 HB HI HK HB3 HK3 hb3
      go_wp2_with fail
      go_end0
      exact ⟨rfl, by have h := HI4.out; unfold rg; rw [if_pos rfl]; simpa [sep, hl, cat3] using h, HB4.out, HK4.out⟩
    · by_cases h2 : s + 1 = e
      · subst h2
        go_wp2_with fail
        refine (itoa_ok s _ (HT.out _ HB.out) hs.1 (by omega)).mono ?_
        rintro e1 w3 ⟨rfl, hb3⟩
        have HI3 := Aside0.mk (HI.out.old hb3)
        have HB3 := Aside0.mk (below_then HB.out (Nat.le_trans hBw HB.out.size) hb3)
        have HK3 := Aside0.mk (HK.out.trans (Kept.below hb3))
        clear HB HI HK hb3
        go_wp2_with fail
        refine (itoa_ok _ _ (HT.out _ HB3.out) (by omega) (by omega)).mono ?_
        rintro e1 w5 ⟨rfl, hb5⟩
        have hi5 := HI3.out.old hb5
        have HB5 := Aside0.mk (below_then HB3.out (Nat.le_trans hBw HB3.out.size) hb5)
        have HK5 := Aside0.mk (HK3.out.trans (Kept.below hb5))
        go_wp2_with fail
        refine (writeString_ok B b _ _ _ hi5 (Nat.le_trans hBw HB5.out.size) (by omega) (by (try simp only [ByteArray.size_append]); (try simp only [sz, sz1, List.length_cons, List.length_nil]); omega)).mono ?_
        rintro e1 w4 ⟨rfl, hi4, hb4, hk4⟩
        have HI4 := Aside0.mk hi4
        have HB4 := Aside0.mk (HB5.out.trans hb4)
        have HK4 := Aside0.mk (HK5.out.trans hk4)
        clear hi5 hi4 hb4 hk4 HB3 HI3 HK3 HB5 HK5 hb5
        go_wp2_with fail
        go_end0
        exact ⟨rfl, by have h := HI4.out; unfold rg; rw [if_neg h1, if_pos rfl]; simpa [sep, hl, cat3] using h, HB4.out, HK4.out⟩
      · go_wp2_with fail
        refine (itoa_ok s _ (HT.out _ HB.out) hs.1 (by omega)).mono ?_
        rintro e1 w3 ⟨rfl, hb3⟩
        have HI3 := Aside0.mk (HI.out.old hb3)
        have HB3 := Aside0.mk (below_then HB.out (Nat.le_trans hBw HB.out.size) hb3)
        have HK3 := Aside0.mk (HK.out.trans (Kept.below hb3))
        clear HB HI HK hb3
        go_wp2_with fail
        refine (itoa_ok _ _ (HT.out _ HB3.out) (by omega) (by omega)).mono ?_
        rintro e1 w5 ⟨rfl, hb5⟩
        have hi5 := HI3.out.old hb5
        have HB5 := Aside0.mk (below_then HB3.out (Nat.le_trans hBw HB3.out.size) hb5)
        have HK5 := Aside0.mk (HK3.out.trans (Kept.below hb5))
        go_wp2_with fail
        refine (writeString_ok B b _ _ _ hi5 (Nat.le_trans hBw HB5.out.size) (by omega) (by (try simp only [ByteArray.size_append]); (try simp only [sz, sz1, List.length_cons, List.length_nil]); omega)).mono ?_
        rintro e1 w4 ⟨rfl, hi4, hb4, hk4⟩
        have HI4 := Aside0.mk hi4
        have HB4 := Aside0.mk (HB5.out.trans hb4)
        have HK4 := Aside0.mk (HK5.out.trans hk4)
        clear hi5 hi4 hb4 hk4 HB3 HI3 HK3 HB5 HK5 hb5
        go_wp2_with fail
        go_end0
        exact ⟨rfl, by have h := HI4.out; unfold rg; rw [if_neg h1, if_neg h2]; simpa [sep, hl, cat3] using h, HB4.out, HK4.out⟩
  · have hl2 : l.length ≤ 90001 := by omega
    by_cases h1 : s = e
    · subst h1
      go_wp2_with fail
      refine (itoa_ok s _ (HT.out _ HB.out) hs.1 (by omega)).mono ?_
      rintro e1 w3 ⟨rfl, hb3⟩
      have hi3 := HI.out.old hb3
      have HB3 := Aside0.mk (below_then HB.out (Nat.le_trans hBw HB.out.size) hb3)
      have HK3 := Aside0.mk (HK.out.trans (Kept.below hb3))
      go_wp2_with fail
      refine (writeString_ok B b _ _ _ hi3 (Nat.le_trans hBw HB3.out.size) (by omega) (by (try simp only [ByteArray.size_append]); (try simp only [sz, sz1, List.length_cons, List.length_nil]); omega)).mono ?_
      rintro e1 w4 ⟨rfl, hi4, hb4, hk4⟩
      have HI4 := Aside0.mk hi4
      have HB4 := Aside0.mk (HB3.out.trans hb4)
      have HK4 := Aside0.mk (HK3.out.trans hk4)
      clear hi3 hi4 hb4 hk4 HB HI HK HB3 HK3 hb3
      go_wp2_with fail
      go_end0
      exact ⟨rfl, by have h := HI4.out; unfold rg; rw [if_pos rfl]; simpa [sep, hl, cat3] using h, HB4.out, HK4.out⟩
    · by_cases h2 : s + 1 = e
      · subst h2
        go_wp2_with fail
        refine (itoa_ok s _ (HT.out _ HB.out) hs.1 (by omega)).mono ?_
        rintro e1 w3 ⟨rfl, hb3⟩
        have HI3 := Aside0.mk (HI.out.old hb3)
        have HB3 := Aside0.mk (below_then HB.out (Nat.le_trans hBw HB.out.size) hb3)
        have HK3 := Aside0.mk (HK.out.trans (Kept.below hb3))
        clear HB HI HK hb3
        go_wp2_with fail
        refine (itoa_ok _ _ (HT.out _ HB3.out) (by omega) (by omega)).mono ?_
        rintro e1 w5 ⟨rfl, hb5⟩
        have hi5 := HI3.out.old hb5
        have HB5 := Aside0.mk (below_then HB3.out (Nat.le_trans hBw HB3.out.size) hb5)
        have HK5 := Aside0.mk (HK3.out.trans (Kept.below hb5))
        go_wp2_with fail
        refine (writeString_ok B b _ _ _ hi5 (Nat.le_trans hBw HB5.out.size) (by omega) (by (try simp only [ByteArray.size_append]); (try simp only [sz, sz1, List.length_cons, List.length_nil]); omega)).mono ?_
        rintro e1 w4 ⟨rfl, hi4, hb4, hk4⟩
        have HI4 := Aside0.mk hi4
        have HB4 := Aside0.mk (HB5.out.trans hb4)
        have HK4 := Aside0.mk (HK5.out.trans hk4)
        clear hi5 hi4 hb4 hk4 HB3 HI3 HK3 HB5 HK5 hb5
        go_wp2_with fail
        go_end0
        exact ⟨rfl, by have h := HI4.out; unfold rg; rw [if_neg h1, if_pos rfl]; simpa [sep, hl, cat3] using h, HB4.out, HK4.out⟩
      · go_wp2_with fail
        refine (itoa_ok s _ (HT.out _ HB.out) hs.1 (by omega)).mono ?_
        rintro e1 w3 ⟨rfl, hb3⟩
        have HI3 := Aside0.mk (HI.out.old hb3)
        have HB3 := Aside0.mk (below_then HB.out (Nat.le_trans hBw HB.out.size) hb3)
        have HK3 := Aside0.mk (HK.out.trans (Kept.below hb3))
        clear HB HI HK hb3
        go_wp2_with fail
        refine (itoa_ok _ _ (HT.out _ HB3.out) (by omega) (by omega)).mono ?_
        rintro e1 w5 ⟨rfl, hb5⟩
        have hi5 := HI3.out.old hb5
        have HB5 := Aside0.mk (below_then HB3.out (Nat.le_trans hBw HB3.out.size) hb5)
        have HK5 := Aside0.mk (HK3.out.trans (Kept.below hb5))
        go_wp2_with fail
        refine (writeString_ok B b _ _ _ hi5 (Nat.le_trans hBw HB5.out.size) (by omega) (by (try simp only [ByteArray.size_append]); (try simp only [sz, sz1, List.length_cons, List.length_nil]); omega)).mono ?_
        rintro e1 w4 ⟨rfl, hi4, hb4, hk4⟩
        have HI4 := Aside0.mk hi4
        have HB4 := Aside0.mk (HB5.out.trans hb4)
        have HK4 := Aside0.mk (HK5.out.trans hk4)
        clear hi5 hi4 hb4 hk4 HB3 HI3 HK3 HB5 HK5 hb5
        go_wp2_with fail
        go_end0
        exact ⟨rfl, by have h := HI4.out; unfold rg; rw [if_neg h1, if_neg h2]; simpa [sep, hl, cat3] using h, HB4.out, HK4.out⟩
end Go.Proofs.YtlghbhkpdlkhjaaDoor.PIS
