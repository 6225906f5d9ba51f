/-
  What impl.TXConv answers, in the form in which the printed text asks for it: the digits, in capital letters, of a number below 2^63 in one base are those in another one. Condition: bases from 2 to 36; math/bits.deBruijn64tab and internal/strconv.uint64pow10 as laid.
-/
import Derived.Test.YthicaehcoingeaaDoorCVy
import Derived.Test.YthicaehcoingeaaDoorShelfS
import Derived.Lib.Case
import Derived.Defers
import Derived.Recover
namespace Go.Proofs.YthicaehcoingeaaDoor.PTV
open Go.RowKit Go.Proofs.YthicaehcoingeaaDoorW.PrintWords Go.Proofs.YthicaehcoingeaaDoorW.PrintLast Go.Proofs.YthicaehcoingeaaDoorW.PrintMore
set_option linter.unusedVariables false
set_option linter.unusedSimpArgs false
set_option maxRecDepth 100000

/-- the digits of n in base b, capital letters -/
def caps (b n : Nat) : List UInt8 := Lib.toUpperA (digs b 64 n)

theorem digs_len (b : Nat) : ∀ (k n m : Nat), n ≤ m → (digs b k n).length ≤ (digs b k m).length
  | 0, n, m, h => Nat.le_refl _
  | k + 1, n, m, h => by
    unfold digs
    by_cases hn : n < b
    · rw [if_pos hn]
      split
      · exact Nat.le_refl _
      · simp
    · rw [if_neg hn, if_neg (by omega)]
      have := digs_len b k (n / b) (m / b) (Nat.div_le_div_right h)
      simp only [List.length_append, List.length_singleton]
      omega
theorem digs_most (b : Nat) : ∀ (k n : Nat), (digs b k n).length ≤ k
  | 0, n => Nat.le_refl _
  | k + 1, n => by
    unfold digs
    split
    · simp
    · have := digs_most b k (n / b)
      simp only [List.length_append, List.length_singleton]
      omega
theorem digs_pos (b k n : Nat) : 0 < (digs b (k + 1) n).length := by
  unfold digs
  split
  · simp
  · simp
theorem cap_sd : ∀ d : Fin 36, dg (Lib.upperB (sd d.val)) = d.val ∧ (((decide (48 ≤ (Lib.upperB (sd d.val)).toNat) && decide ((Lib.upperB (sd d.val)).toNat ≤ 57)) || (decide (65 ≤ (Lib.upperB (sd d.val)).toNat) && decide ((Lib.upperB (sd d.val)).toNat ≤ 90))) = true) ∧ (sd d.val).toNat < 128 := by decide +kernel
theorem cap_sd' (d b : Nat) (hd : d < b) (hb : b ≤ 36) : dg (Lib.upperB (sd d)) = d ∧ isDg b (Lib.upperB (sd d)) = true ∧ (sd d).toNat < 128 := by
  obtain ⟨h1, h2, h3⟩ := cap_sd ⟨d, by omega⟩
  simp only at h1 h2 h3
  refine ⟨h1, ?_, h3⟩
  unfold isDg
  rw [h2, h1]
  simp [hd]
theorem valOf_snoc (b : Nat) (l : List UInt8) (c : UInt8) : valOf b (l ++ [c]) = valOf b l * b + dg c := by
  unfold valOf
  rw [List.foldl_append]
  rfl
theorem valOf_digs (b : Nat) (hb2 : 2 ≤ b) (hb36 : b ≤ 36) : ∀ (k n : Nat), n < b ^ k → valOf b (Lib.toUpperA (digs b k n)) = n
  | 0, n, h => by
    have : n = 0 := by simpa using h
    subst this
    rfl
  | k + 1, n, h => by
    unfold digs
    split
    · rename_i hn
      show valOf b ([] ++ [Lib.upperB (sd n)]) = n
      rw [valOf_snoc, (cap_sd' n b hn hb36).1]
      show 0 * b + n = n
      omega
    · have ih := valOf_digs b hb2 hb36 k (n / b) (by
        apply Nat.div_lt_of_lt_mul
        rw [Nat.mul_comm, ← Nat.pow_succ]
        exact h)
      have e : Lib.toUpperA (digs b k (n / b) ++ [sd (n % b)]) = Lib.toUpperA (digs b k (n / b)) ++ [Lib.upperB (sd (n % b))] := by
        unfold Lib.toUpperA
        rw [List.map_append]
        rfl
      rw [e, valOf_snoc, ih, (cap_sd' (n % b) b (Nat.mod_lt _ (by omega)) hb36).1, Nat.mul_comm]
      exact Nat.div_add_mod n b
theorem isDg_digs (b : Nat) (hb2 : 2 ≤ b) (hb36 : b ≤ 36) : ∀ (k n : Nat), (Lib.toUpperA (digs b k n)).all (isDg b) = true
  | 0, n => rfl
  | k + 1, n => by
    unfold digs
    split
    · rename_i hn
      show (isDg b (Lib.upperB (sd n)) && true) = true
      rw [(cap_sd' n b hn hb36).2.1]
      rfl
    · have e : Lib.toUpperA (digs b k (n / b) ++ [sd (n % b)]) = Lib.toUpperA (digs b k (n / b)) ++ [Lib.upperB (sd (n % b))] := by
        unfold Lib.toUpperA
        rw [List.map_append]
        rfl
      rw [e, List.all_append, isDg_digs b hb2 hb36 k (n / b)]
      show (true && (isDg b (Lib.upperB (sd (n % b))) && true)) = true
      rw [(cap_sd' (n % b) b (Nat.mod_lt _ (by omega)) hb36).2.1]
      rfl
theorem ascii_digs (b : Nat) (hb2 : 2 ≤ b) (hb36 : b ≤ 36) : ∀ (k n : Nat), ∀ c ∈ digs b k n, c.toNat < 128
  | 0, n => fun c hc => by cases hc
  | k + 1, n => fun c hc => by
    unfold digs at hc
    split at hc
    · rename_i hn
      rw [List.mem_singleton.1 hc]
      exact (cap_sd' n b hn hb36).2.2
    · rcases List.mem_append.1 hc with hc | hc
      · exact ascii_digs b hb2 hb36 k (n / b) c hc
      · rw [List.mem_singleton.1 hc]
        exact (cap_sd' (n % b) b (Nat.mod_lt _ (by omega)) hb36).2.2

theorem convert_base_ok (s : ByteArray) (a b n : Nat) (w : World) (hg : Tabs w) (ha2 : 2 ≤ a) (ha36 : a ≤ 36) (hb2 : 2 ≤ b) (hb36 : b ≤ 36) (hn : n < 9223372036854775808) (hs : s.data.toList = caps a n) :
    Calls Tryd.prog 66 #[.string s, .int .i64 a, .int .i64 b] w fun e w' => e = .returned (.tuple #[.string ⟨(caps b n).toArray⟩, .bool true]) ∧ Below w.heap.size w w' := by
  have pw : ∀ b : Nat, 2 ≤ b → n < b ^ 64 := fun b hb => Nat.lt_of_lt_of_le (Nat.lt_trans hn (by decide : 9223372036854775808 < 2 ^ 64)) (Nat.pow_le_pow_left hb 64)
  have hlen : s.size = (digs a 64 n).length := by
    have e : s.size = s.data.toList.length := rfl
    rw [e, hs]
    simp [caps, Lib.toUpperA]
  have hv : valOf a s.data.toList = n := by rw [hs]; exact valOf_digs a ha2 ha36 64 n (pw a ha2)
  have HF := Aside0.mk (from_base_ok s a w hg ha2 ha36 (by rw [hlen]; exact digs_pos a 63 n) (by rw [hlen]; have := digs_most a 64 n; omega) (by rw [hs]; exact isDg_digs a ha2 ha36 64 n) (by rw [hv]; exact hn) (by rw [hlen]; exact digs_len a 64 n _ (by omega)))
  rw [hv] at HF
  have HT := Aside0.mk (fun W hW => to_base_ok n b (by omega) hb2 hb36 W hW)
  have HU := Aside0.mk (fun W => Tryd.strings_ToUpper_ascii (⟨(digs b 64 n).toArray⟩ : ByteArray) W (by
      have : (⟨(digs b 64 n).toArray⟩ : ByteArray).size = (digs b 64 n).length := by show ((digs b 64 n).toArray).size = _; simp
      rw [this]
      have := digs_most b 64 n
      omega) (fun j c h => ascii_digs b hb2 hb36 64 n c (List.mem_of_getElem? h)))
  have hpos : ((⟨(digs b 64 n).toArray⟩ : ByteArray).size : Int) > 0 := by
    have : (⟨(digs b 64 n).toArray⟩ : ByteArray).size = (digs b 64 n).length := by show ((digs b 64 n).toArray).size = _; simp
    rw [this]
    have h63 : 0 < (digs b 64 n).length := digs_pos b 63 n
    omega
  have hcap : (⟨(Lib.toUpperA (⟨(digs b 64 n).toArray⟩ : ByteArray).data.toList).toArray⟩ : ByteArray) = ⟨(caps b n).toArray⟩ := rfl
  rw [hcap] at HU
  generalize hU : (⟨(digs b 64 n).toArray⟩ : ByteArray) = U at HT HU hpos
  clear hU hcap hv hlen pw hs hn
  have hp2 : (decide ((U.size : Int) > 0)) = true := by simpa using hpos
  go_enter Tryd.func66, Tryd.ntmps66
  go_wp2_with fail
  refine HF.out.mono ?_
  rintro e w1 ⟨rfl, hb1⟩
  go_wp2_with fail
  refine (HT.out _ (Tabs.later hg hb1)).mono ?_
  rintro e w2 ⟨rfl, hb2⟩
  go_wp2_with fail
  refine (HU.out _).mono ?_
  rintro e w3 ⟨rfl, hb3⟩
  have hB := below_then (below_then hb1 hb1.size hb2) (below_then hb1 hb1.size hb2).size hb3
  go_wp2_with fail
  go_ret2
  refine ⟨?_, hB⟩
  simp_all

theorem caught_idle (p : Addr) (w : World) :
    CallsD Tryd.prog 41 #[.pointer (some p)] .returning w fun e u' w' => e = .returned (.tuple #[]) ∧ u' = .returning ∧ w' = w := by
  refine callsD_of_wpS Tryd.func41 rfl fun c₀ cs hu => ?_
  apply wpS_seq
  apply wpS_region
  simp [wpOpsS, go_sem, recoverD, hu, Tryd.ntmps41, Exit.thenS]
  refine wpS_cond (t := false) (by simp [Act.eval, Array.replicate]) ?_
  simp only [Bool.false_eq_true, if_false]
  refine wpS_of_wp (wp_skip ?_)
  cases c₀
  simp_all [bodyPostS, results, Tryd.results41]
theorem new_cell {w w' : World} {v : Value} {t : TypeId} (hb : Below (w.alloc (.cells #[v] t)).heap.size (w.alloc (.cells #[v] t)) w') :
    w'.cell? ⟨w.heap.size, 0, none⟩ = some v ∧ w'.frozen? ⟨w.heap.size, 0, none⟩ = false ∧ Below w.heap.size w w' :=
  ⟨(hb.cell (p := ⟨w.heap.size, 0, none⟩) (by simp)).trans (by simp [go_sem]), (hb.frozen (p := ⟨w.heap.size, 0, none⟩) (by simp)).trans (by simp [go_sem]), below_then (below_alloc (Below.refl _ _) _) (by simp) hb⟩

def Glob (w : World) : Prop := Tabs w
theorem Glob.later {w w' : World} (h : Glob w) (hb : Below w.heap.size w w') : Glob w' := Tabs.later h hb
def impl_TXConv.f (a0 : ByteArray) (a1 a2 : Int) : Option (ByteArray × Bool) :=
  if (2 ≤ a1 ∧ a1 ≤ 36 ∧ 2 ≤ a2 ∧ a2 ≤ 36) ∧ valOf a1.toNat a0.data.toList < 9223372036854775808 ∧ a0.data.toList = caps a1.toNat (valOf a1.toNat a0.data.toList) then some (⟨(caps a2.toNat (valOf a1.toNat a0.data.toList)).toArray⟩, true) else none
theorem conv_call (s : ByteArray) (a b n : Nat) (w : World) (hg : Glob w) (ha2 : 2 ≤ a) (ha36 : a ≤ 36) (hb2 : 2 ≤ b) (hb36 : b ≤ 36) (hn : n < 9223372036854775808) (hs : s.data.toList = caps a n) :
    Calls Tryd.prog 23 #[.string s, .int .i64 a, .int .i64 b] w fun e w' => e = .returned (.tuple #[.string ⟨(caps b n).toArray⟩, .bool true]) ∧ Below w.heap.size w w' := by
  have hlen : s.size = (digs a 64 n).length := by
    have e : s.size = s.data.toList.length := rfl
    rw [e, hs]
    simp [caps, Lib.toUpperA]
  have h0 : 0 < s.size := by rw [hlen]; exact digs_pos a 63 n
  have hne : s.toList.isEmpty = false := by
    rw [ByteArray.toList_eq]
    cases hl : s.data.toList with
    | nil => have : s.data.toList.length = s.size := rfl; rw [hl, List.length_nil] at this; omega
    | cons _ _ => rfl
  have HS := Aside0.mk (fun W hW => convert_base_ok s a b n W hW ha2 ha36 hb2 hb36 hn hs)
  clear hs hlen h0
  go_enter_defers Tryd.func23, Tryd.ntmps23
  go_wp2_with (go_at_call 66; refine (HS.out _ (Tabs.later hg (below_alloc (Below.refl _ _) _))).mono ?_; rintro e w' ⟨rfl, hb⟩; obtain ⟨hc, hz, hB⟩ := new_cell hb; clear hb)
  refine leaves_cons (f := 41) (args := #[.pointer (some ⟨w.heap.size, 0, none⟩)]) (by simp) (by simp [go_sem]) ?_
  refine (caught_idle ⟨w.heap.size, 0, none⟩ _).mono ?_
  rintro e u' w'' ⟨rfl, rfl, rfl⟩
  refine ⟨.tuple #[.string ⟨(caps b n).toArray⟩, .bool true], ?_, rfl, ?_⟩
  · simp [results, Tryd.results23, go_sem, hc]
  · first
    | exact hB.setCell (p := ⟨w.heap.size, 0, none⟩) (Nat.le_refl _) _
    | exact below_drew (hB.setCell (p := ⟨w.heap.size, 0, none⟩) (Nat.le_refl _) _)
    | trace_state
theorem impl_TXConv.calls (a0 : ByteArray) (a1 a2 : Int) (r1 : ByteArray) (r2 : Bool) (w : World) (hg : Glob w) (h : impl_TXConv.f a0 a1 a2 = some (r1, r2)) :
    Calls Tryd.prog 23 #[.string a0, .int .i64 a1, .int .i64 a2] w fun e w' => e = .returned (.tuple #[.string r1, .bool r2]) ∧ Below w.heap.size w w' := by
  unfold impl_TXConv.f at h
  split at h
  · rename_i hc
    obtain ⟨⟨h1, h2, h3, h4⟩, hv, hs⟩ := hc
    simp only [Option.some.injEq, Prod.mk.injEq] at h
    obtain ⟨rfl, rfl⟩ := h
    obtain ⟨a, rfl⟩ : ∃ a : Nat, a1 = a := ⟨a1.toNat, by omega⟩
    obtain ⟨b, rfl⟩ : ∃ b : Nat, a2 = b := ⟨a2.toNat, by omega⟩
    simp only [Int.toNat_natCast] at hv hs ⊢
    exact conv_call a0 a b _ w hg (by omega) (by omega) (by omega) (by omega) hv hs
  · cases h
end Go.Proofs.YthicaehcoingeaaDoor.PTV
