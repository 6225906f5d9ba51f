/-
  laws.FnVLReads answers true at each kind and each eight bytes. Condition: the variable impl.sizes reads as the program lays it.
-/
import Derived.Test.YthicaehcoingeaaDoorVRp
import Derived.Test.YthicaehcoingeaaDoorVRw
namespace Go.Proofs.YthicaehcoingeaaDoor.PVL
open Go.RowKit Go.Proofs.YthicaehcoingeaaDoorW.PrintWords Go.Proofs.YthicaehcoingeaaDoorW.PrintLast Go.Proofs.YthicaehcoingeaaDoorW.PrintMore
set_option linter.unusedVariables false
set_option linter.unusedSimpArgs false

theorem number_f (kd : Int) (l : List UInt8) (h1 : 1 ≤ l.length) (h8 : l.length ≤ 8) : spec_VLNumber.f 20 kd (nat l) = spec_VLNumber.l0 (20 - l.length) kd (nat l) (Lib.leNat l) (-1) := by
  have h := number_rounds kd l.reverse [] 20 (by simp; omega) (by simp; omega)
  simp only [List.reverse_reverse, List.append_nil, List.length_reverse] at h
  unfold spec_VLNumber.f
  have e : wrap64 (((nat l).length : Int) - 1) = (l.length : Int) - 1 := by
    have hn : (nat l).length = l.length := by simp [nat]
    rw [hn]; unfold wrap64; omega
  rw [e]
  exact h
theorem C_cell {W : World} {g n : Nat} {l : List Int} (h : Kd.C (Kd.int .u8) W (some ⟨g, 0, none⟩) n l) (i : Nat) (hi : i < n) : W.cell? ⟨g, i, none⟩ = some (.int .u8 (l.getD i 0)) := by
  obtain ⟨ad, e, hc⟩ := Kd.at_int h (i : Int) (by omega) (by omega)
  injection e with e
  subst e
  have e2 : (Addr.add ⟨g, 0, none⟩ i) = ⟨g, i, none⟩ := by
    unfold Addr.add; split <;> simp_all
  rw [Int.toNat_natCast, e2] at hc
  exact hc
theorem fin_u (kd : Int) (l : List UInt8) (k : Nat) (v : Int) (hk : 0 < k) (hs : spec_VLSigned.f kd = some false) : spec_VLNumber.l0 k kd (nat l) v (-1) = some v := by
  obtain ⟨k, rfl⟩ : ∃ m, k = m + 1 := ⟨k - 1, by omega⟩
  unfold spec_VLNumber.l0
  rw [if_neg (by omega), hs]
  rfl
theorem fin_64 (kd : Int) (l : List UInt8) (k : Nat) (v : Int) (hk : 0 < k) (hl : l.length = 8) (hs : spec_VLSigned.f kd = some true) : spec_VLNumber.l0 k kd (nat l) v (-1) = some v := by
  obtain ⟨k, rfl⟩ : ∃ m, k = m + 1 := ⟨k - 1, by omega⟩
  have hn : (nat l).length = 8 := by simp [nat, hl]
  unfold spec_VLNumber.l0
  rw [if_neg (by omega), hs, hn]
  simp [wrap64]
theorem fin_8 (kd : Int) (l : List UInt8) (k : Nat) (hk : 0 < k) (hl : l.length = 1) (hs : spec_VLSigned.f kd = some true) : spec_VLNumber.l0 k kd (nat l) (Lib.leNat l) (-1) = some (numOf 8 (Lib.leNat l)) := by
  obtain ⟨k, rfl⟩ : ∃ m, k = m + 1 := ⟨k - 1, by omega⟩
  have hn : (nat l).length = 1 := by simp [nat, hl]
  have hp := le_pow l
  rw [hl] at hp
  unfold spec_VLNumber.l0
  rw [if_neg (by omega), hs, hn]
  simp [wrap64, IntKind.wrap_u64, shr, shl, IntKind.bits, numOf]
  simp at hp
  split <;> split <;> simp only [Option.some.injEq] <;> omega
theorem fin_16 (kd : Int) (l : List UInt8) (k : Nat) (hk : 0 < k) (hl : l.length = 2) (hs : spec_VLSigned.f kd = some true) : spec_VLNumber.l0 k kd (nat l) (Lib.leNat l) (-1) = some (numOf 16 (Lib.leNat l)) := by
  obtain ⟨k, rfl⟩ : ∃ m, k = m + 1 := ⟨k - 1, by omega⟩
  have hn : (nat l).length = 2 := by simp [nat, hl]
  have hp := le_pow l
  rw [hl] at hp
  unfold spec_VLNumber.l0
  rw [if_neg (by omega), hs, hn]
  simp [wrap64, IntKind.wrap_u64, shr, shl, IntKind.bits, numOf]
  simp at hp
  split <;> split <;> simp only [Option.some.injEq] <;> omega
theorem fin_32 (kd : Int) (l : List UInt8) (k : Nat) (hk : 0 < k) (hl : l.length = 4) (hs : spec_VLSigned.f kd = some true) : spec_VLNumber.l0 k kd (nat l) (Lib.leNat l) (-1) = some (numOf 32 (Lib.leNat l)) := by
  obtain ⟨k, rfl⟩ : ∃ m, k = m + 1 := ⟨k - 1, by omega⟩
  have hn : (nat l).length = 4 := by simp [nat, hl]
  have hp := le_pow l
  rw [hl] at hp
  unfold spec_VLNumber.l0
  rw [if_neg (by omega), hs, hn]
  simp [wrap64, IntKind.wrap_u64, shr, shl, IntKind.bits, numOf]
  simp at hp
  split <;> split <;> simp only [Option.some.injEq] <;> omega
theorem c8 (N : Nat) : numOf 8 N = N ∨ numOf 8 N = (N : Int) + 18446744073709551616 - 256 := by
  unfold numOf; split
  · right; omega
  · left; rfl
theorem c16 (N : Nat) : numOf 16 N = N ∨ numOf 16 N = (N : Int) + 18446744073709551616 - 65536 := by
  unfold numOf; split
  · right; omega
  · left; rfl
theorem c32 (N : Nat) : numOf 32 N = N ∨ numOf 32 N = (N : Int) + 18446744073709551616 - 4294967296 := by
  unfold numOf; split
  · right; omega
  · left; rfl

theorem num1 (b0 : UInt8) : spec_VLNumber.f 20 1 (nat [b0]) = some (numOf 8 (Lib.leNat [b0])) := by
  rw [number_f 1 [b0] (by simp) (by simp)]
  exact fin_8 1 _ _ (by simp) rfl (by simp [spec_VLSigned.f])
theorem rd1 (b0 : UInt8) : ReadsAs 1 (nat [b0]) (numOf 8 (Lib.leNat [b0])) := by
  intro W g c hg hl hC
  exact read1 b0 W g c hg hl (C_cell hC 0 (by simp [nat]))
theorem wr1 (b0 : UInt8) : WritesAs 1 (nat [b0]) (numOf 8 (Lib.leNat [b0])) := by
  intro W hg
  have u0 := b0.toNat_lt
  have hb : 0 ≤ numOf 8 (Lib.leNat [b0]) ∧ numOf 8 (Lib.leNat [b0]) ≤ 18446744073709551615 ∧ numOf 8 (Lib.leNat [b0]) % 256 = b0.toNat := by
    rcases c8 (Lib.leNat [b0]) with h | h <;> rw [h] <;> simp only [Lib.leNat] <;> omega
  refine (write1 _ hb.1 hb.2.1 W (hg 1 (by omega))).mono ?_
  rintro e w' ⟨rfl, hh, hbel⟩
  obtain ⟨-, -, h0⟩ := hb
  rw [h0] at hh
  exact ⟨_, rfl, R_bytes (nat [b0]) hh (by simp [nat]), hbel⟩

theorem num2 (b0 : UInt8) : spec_VLNumber.f 20 2 (nat [b0]) = some (numOf 64 (Lib.leNat [b0])) := by
  rw [number_f 2 [b0] (by simp) (by simp)]
  rw [n64]; exact fin_u 2 _ _ _ (by simp) (by simp [spec_VLSigned.f])
theorem rd2 (b0 : UInt8) : ReadsAs 2 (nat [b0]) (numOf 64 (Lib.leNat [b0])) := by
  intro W g c hg hl hC
  exact read2 b0 W g c hg hl (C_cell hC 0 (by simp [nat]))
theorem wr2 (b0 : UInt8) : WritesAs 2 (nat [b0]) (numOf 64 (Lib.leNat [b0])) := by
  intro W hg
  have u0 := b0.toNat_lt
  have hb : 0 ≤ numOf 64 (Lib.leNat [b0]) ∧ numOf 64 (Lib.leNat [b0]) ≤ 18446744073709551615 ∧ numOf 64 (Lib.leNat [b0]) % 256 = b0.toNat := by
    rw [n64]; simp only [Lib.leNat]; omega
  refine (write2 _ hb.1 hb.2.1 W (hg 2 (by omega))).mono ?_
  rintro e w' ⟨rfl, hh, hbel⟩
  obtain ⟨-, -, h0⟩ := hb
  rw [h0] at hh
  exact ⟨_, rfl, R_bytes (nat [b0]) hh (by simp [nat]), hbel⟩

theorem num3 (b0 b1 : UInt8) : spec_VLNumber.f 20 3 (nat [b0, b1]) = some (numOf 16 (Lib.leNat [b0, b1])) := by
  rw [number_f 3 [b0, b1] (by simp) (by simp)]
  exact fin_16 3 _ _ (by simp) rfl (by simp [spec_VLSigned.f])
theorem rd3 (b0 b1 : UInt8) : ReadsAs 3 (nat [b0, b1]) (numOf 16 (Lib.leNat [b0, b1])) := by
  intro W g c hg hl hC
  exact read3 b0 b1 W g c hg hl (C_cell hC 0 (by simp [nat])) (C_cell hC 1 (by simp [nat]))
theorem wr3 (b0 b1 : UInt8) : WritesAs 3 (nat [b0, b1]) (numOf 16 (Lib.leNat [b0, b1])) := by
  intro W hg
  have u0 := b0.toNat_lt
  have u1 := b1.toNat_lt
  have hb : 0 ≤ numOf 16 (Lib.leNat [b0, b1]) ∧ numOf 16 (Lib.leNat [b0, b1]) ≤ 18446744073709551615 ∧ numOf 16 (Lib.leNat [b0, b1]) % 256 = b0.toNat ∧ numOf 16 (Lib.leNat [b0, b1]) / 256 % 256 = b1.toNat := by
    rcases c16 (Lib.leNat [b0, b1]) with h | h <;> rw [h] <;> simp only [Lib.leNat] <;> omega
  refine (write3 _ hb.1 hb.2.1 W (hg 3 (by omega))).mono ?_
  rintro e w' ⟨rfl, hh, hbel⟩
  obtain ⟨-, -, h0, h1⟩ := hb
  rw [h0, h1] at hh
  exact ⟨_, rfl, R_bytes (nat [b0, b1]) hh (by simp [nat]), hbel⟩

theorem num4 (b0 b1 : UInt8) : spec_VLNumber.f 20 4 (nat [b0, b1]) = some (numOf 64 (Lib.leNat [b0, b1])) := by
  rw [number_f 4 [b0, b1] (by simp) (by simp)]
  rw [n64]; exact fin_u 4 _ _ _ (by simp) (by simp [spec_VLSigned.f])
theorem rd4 (b0 b1 : UInt8) : ReadsAs 4 (nat [b0, b1]) (numOf 64 (Lib.leNat [b0, b1])) := by
  intro W g c hg hl hC
  exact read4 b0 b1 W g c hg hl (C_cell hC 0 (by simp [nat])) (C_cell hC 1 (by simp [nat]))
theorem wr4 (b0 b1 : UInt8) : WritesAs 4 (nat [b0, b1]) (numOf 64 (Lib.leNat [b0, b1])) := by
  intro W hg
  have u0 := b0.toNat_lt
  have u1 := b1.toNat_lt
  have hb : 0 ≤ numOf 64 (Lib.leNat [b0, b1]) ∧ numOf 64 (Lib.leNat [b0, b1]) ≤ 18446744073709551615 ∧ numOf 64 (Lib.leNat [b0, b1]) % 256 = b0.toNat ∧ numOf 64 (Lib.leNat [b0, b1]) / 256 % 256 = b1.toNat := by
    rw [n64]; simp only [Lib.leNat]; omega
  refine (write4 _ hb.1 hb.2.1 W (hg 4 (by omega))).mono ?_
  rintro e w' ⟨rfl, hh, hbel⟩
  obtain ⟨-, -, h0, h1⟩ := hb
  rw [h0, h1] at hh
  exact ⟨_, rfl, R_bytes (nat [b0, b1]) hh (by simp [nat]), hbel⟩

theorem num7 (b0 b1 b2 b3 : UInt8) : spec_VLNumber.f 20 7 (nat [b0, b1, b2, b3]) = some (numOf 32 (Lib.leNat [b0, b1, b2, b3])) := by
  rw [number_f 7 [b0, b1, b2, b3] (by simp) (by simp)]
  exact fin_32 7 _ _ (by simp) rfl (by simp [spec_VLSigned.f])
theorem rd7 (b0 b1 b2 b3 : UInt8) : ReadsAs 7 (nat [b0, b1, b2, b3]) (numOf 32 (Lib.leNat [b0, b1, b2, b3])) := by
  intro W g c hg hl hC
  exact read7 b0 b1 b2 b3 W g c hg hl (C_cell hC 0 (by simp [nat])) (C_cell hC 1 (by simp [nat])) (C_cell hC 2 (by simp [nat])) (C_cell hC 3 (by simp [nat]))
theorem wr7 (b0 b1 b2 b3 : UInt8) : WritesAs 7 (nat [b0, b1, b2, b3]) (numOf 32 (Lib.leNat [b0, b1, b2, b3])) := by
  intro W hg
  have u0 := b0.toNat_lt
  have u1 := b1.toNat_lt
  have u2 := b2.toNat_lt
  have u3 := b3.toNat_lt
  have hb : 0 ≤ numOf 32 (Lib.leNat [b0, b1, b2, b3]) ∧ numOf 32 (Lib.leNat [b0, b1, b2, b3]) ≤ 18446744073709551615 ∧ numOf 32 (Lib.leNat [b0, b1, b2, b3]) % 256 = b0.toNat ∧ numOf 32 (Lib.leNat [b0, b1, b2, b3]) / 256 % 256 = b1.toNat ∧ numOf 32 (Lib.leNat [b0, b1, b2, b3]) / 65536 % 256 = b2.toNat ∧ numOf 32 (Lib.leNat [b0, b1, b2, b3]) / 16777216 % 256 = b3.toNat := by
    rcases c32 (Lib.leNat [b0, b1, b2, b3]) with h | h <;> rw [h] <;> simp only [Lib.leNat] <;> omega
  refine (write7 _ hb.1 hb.2.1 W (hg 7 (by omega))).mono ?_
  rintro e w' ⟨rfl, hh, hbel⟩
  obtain ⟨-, -, h0, h1, h2, h3⟩ := hb
  rw [h0, h1, h2, h3] at hh
  exact ⟨_, rfl, R_bytes (nat [b0, b1, b2, b3]) hh (by simp [nat]), hbel⟩

theorem num8 (b0 b1 b2 b3 : UInt8) : spec_VLNumber.f 20 8 (nat [b0, b1, b2, b3]) = some (numOf 64 (Lib.leNat [b0, b1, b2, b3])) := by
  rw [number_f 8 [b0, b1, b2, b3] (by simp) (by simp)]
  rw [n64]; exact fin_u 8 _ _ _ (by simp) (by simp [spec_VLSigned.f])
theorem rd8 (b0 b1 b2 b3 : UInt8) : ReadsAs 8 (nat [b0, b1, b2, b3]) (numOf 64 (Lib.leNat [b0, b1, b2, b3])) := by
  intro W g c hg hl hC
  exact read8 b0 b1 b2 b3 W g c hg hl (C_cell hC 0 (by simp [nat])) (C_cell hC 1 (by simp [nat])) (C_cell hC 2 (by simp [nat])) (C_cell hC 3 (by simp [nat]))
theorem wr8 (b0 b1 b2 b3 : UInt8) : WritesAs 8 (nat [b0, b1, b2, b3]) (numOf 64 (Lib.leNat [b0, b1, b2, b3])) := by
  intro W hg
  have u0 := b0.toNat_lt
  have u1 := b1.toNat_lt
  have u2 := b2.toNat_lt
  have u3 := b3.toNat_lt
  have hb : 0 ≤ numOf 64 (Lib.leNat [b0, b1, b2, b3]) ∧ numOf 64 (Lib.leNat [b0, b1, b2, b3]) ≤ 18446744073709551615 ∧ numOf 64 (Lib.leNat [b0, b1, b2, b3]) % 256 = b0.toNat ∧ numOf 64 (Lib.leNat [b0, b1, b2, b3]) / 256 % 256 = b1.toNat ∧ numOf 64 (Lib.leNat [b0, b1, b2, b3]) / 65536 % 256 = b2.toNat ∧ numOf 64 (Lib.leNat [b0, b1, b2, b3]) / 16777216 % 256 = b3.toNat := by
    rw [n64]; simp only [Lib.leNat]; omega
  refine (write8 _ hb.1 hb.2.1 W (hg 8 (by omega))).mono ?_
  rintro e w' ⟨rfl, hh, hbel⟩
  obtain ⟨-, -, h0, h1, h2, h3⟩ := hb
  rw [h0, h1, h2, h3] at hh
  exact ⟨_, rfl, R_bytes (nat [b0, b1, b2, b3]) hh (by simp [nat]), hbel⟩

theorem num9 (b0 b1 b2 b3 b4 b5 b6 b7 : UInt8) : spec_VLNumber.f 20 9 (nat [b0, b1, b2, b3, b4, b5, b6, b7]) = some (numOf 64 (Lib.leNat [b0, b1, b2, b3, b4, b5, b6, b7])) := by
  rw [number_f 9 [b0, b1, b2, b3, b4, b5, b6, b7] (by simp) (by simp)]
  rw [n64]; exact fin_64 9 _ _ _ (by simp) rfl (by simp [spec_VLSigned.f])
theorem rd9 (b0 b1 b2 b3 b4 b5 b6 b7 : UInt8) : ReadsAs 9 (nat [b0, b1, b2, b3, b4, b5, b6, b7]) (numOf 64 (Lib.leNat [b0, b1, b2, b3, b4, b5, b6, b7])) := by
  intro W g c hg hl hC
  exact read9 b0 b1 b2 b3 b4 b5 b6 b7 W g c hg hl (C_cell hC 0 (by simp [nat])) (C_cell hC 1 (by simp [nat])) (C_cell hC 2 (by simp [nat])) (C_cell hC 3 (by simp [nat])) (C_cell hC 4 (by simp [nat])) (C_cell hC 5 (by simp [nat])) (C_cell hC 6 (by simp [nat])) (C_cell hC 7 (by simp [nat]))
theorem wr9 (b0 b1 b2 b3 b4 b5 b6 b7 : UInt8) : WritesAs 9 (nat [b0, b1, b2, b3, b4, b5, b6, b7]) (numOf 64 (Lib.leNat [b0, b1, b2, b3, b4, b5, b6, b7])) := by
  intro W hg
  have u0 := b0.toNat_lt
  have u1 := b1.toNat_lt
  have u2 := b2.toNat_lt
  have u3 := b3.toNat_lt
  have u4 := b4.toNat_lt
  have u5 := b5.toNat_lt
  have u6 := b6.toNat_lt
  have u7 := b7.toNat_lt
  have hb : 0 ≤ numOf 64 (Lib.leNat [b0, b1, b2, b3, b4, b5, b6, b7]) ∧ numOf 64 (Lib.leNat [b0, b1, b2, b3, b4, b5, b6, b7]) ≤ 18446744073709551615 ∧ numOf 64 (Lib.leNat [b0, b1, b2, b3, b4, b5, b6, b7]) % 256 = b0.toNat ∧ numOf 64 (Lib.leNat [b0, b1, b2, b3, b4, b5, b6, b7]) / 256 % 256 = b1.toNat ∧ numOf 64 (Lib.leNat [b0, b1, b2, b3, b4, b5, b6, b7]) / 65536 % 256 = b2.toNat ∧ numOf 64 (Lib.leNat [b0, b1, b2, b3, b4, b5, b6, b7]) / 16777216 % 256 = b3.toNat ∧ numOf 64 (Lib.leNat [b0, b1, b2, b3, b4, b5, b6, b7]) / 4294967296 % 256 = b4.toNat ∧ numOf 64 (Lib.leNat [b0, b1, b2, b3, b4, b5, b6, b7]) / 1099511627776 % 256 = b5.toNat ∧ numOf 64 (Lib.leNat [b0, b1, b2, b3, b4, b5, b6, b7]) / 281474976710656 % 256 = b6.toNat ∧ numOf 64 (Lib.leNat [b0, b1, b2, b3, b4, b5, b6, b7]) / 72057594037927936 % 256 = b7.toNat := by
    rw [n64]; simp only [Lib.leNat]; omega
  refine (write9 _ hb.1 hb.2.1 W (hg 9 (by omega))).mono ?_
  rintro e w' ⟨rfl, hh, hbel⟩
  obtain ⟨-, -, h0, h1, h2, h3, h4, h5, h6, h7⟩ := hb
  rw [h0, h1, h2, h3, h4, h5, h6, h7] at hh
  exact ⟨_, rfl, R_bytes (nat [b0, b1, b2, b3, b4, b5, b6, b7]) hh (by simp [nat]), hbel⟩

theorem num10 (b0 b1 b2 b3 b4 b5 b6 b7 : UInt8) : spec_VLNumber.f 20 10 (nat [b0, b1, b2, b3, b4, b5, b6, b7]) = some (numOf 64 (Lib.leNat [b0, b1, b2, b3, b4, b5, b6, b7])) := by
  rw [number_f 10 [b0, b1, b2, b3, b4, b5, b6, b7] (by simp) (by simp)]
  rw [n64]; exact fin_u 10 _ _ _ (by simp) (by simp [spec_VLSigned.f])
theorem rd10 (b0 b1 b2 b3 b4 b5 b6 b7 : UInt8) : ReadsAs 10 (nat [b0, b1, b2, b3, b4, b5, b6, b7]) (numOf 64 (Lib.leNat [b0, b1, b2, b3, b4, b5, b6, b7])) := by
  intro W g c hg hl hC
  exact read10 b0 b1 b2 b3 b4 b5 b6 b7 W g c hg hl (C_cell hC 0 (by simp [nat])) (C_cell hC 1 (by simp [nat])) (C_cell hC 2 (by simp [nat])) (C_cell hC 3 (by simp [nat])) (C_cell hC 4 (by simp [nat])) (C_cell hC 5 (by simp [nat])) (C_cell hC 6 (by simp [nat])) (C_cell hC 7 (by simp [nat]))
theorem wr10 (b0 b1 b2 b3 b4 b5 b6 b7 : UInt8) : WritesAs 10 (nat [b0, b1, b2, b3, b4, b5, b6, b7]) (numOf 64 (Lib.leNat [b0, b1, b2, b3, b4, b5, b6, b7])) := by
  intro W hg
  have u0 := b0.toNat_lt
  have u1 := b1.toNat_lt
  have u2 := b2.toNat_lt
  have u3 := b3.toNat_lt
  have u4 := b4.toNat_lt
  have u5 := b5.toNat_lt
  have u6 := b6.toNat_lt
  have u7 := b7.toNat_lt
  have hb : 0 ≤ numOf 64 (Lib.leNat [b0, b1, b2, b3, b4, b5, b6, b7]) ∧ numOf 64 (Lib.leNat [b0, b1, b2, b3, b4, b5, b6, b7]) ≤ 18446744073709551615 ∧ numOf 64 (Lib.leNat [b0, b1, b2, b3, b4, b5, b6, b7]) % 256 = b0.toNat ∧ numOf 64 (Lib.leNat [b0, b1, b2, b3, b4, b5, b6, b7]) / 256 % 256 = b1.toNat ∧ numOf 64 (Lib.leNat [b0, b1, b2, b3, b4, b5, b6, b7]) / 65536 % 256 = b2.toNat ∧ numOf 64 (Lib.leNat [b0, b1, b2, b3, b4, b5, b6, b7]) / 16777216 % 256 = b3.toNat ∧ numOf 64 (Lib.leNat [b0, b1, b2, b3, b4, b5, b6, b7]) / 4294967296 % 256 = b4.toNat ∧ numOf 64 (Lib.leNat [b0, b1, b2, b3, b4, b5, b6, b7]) / 1099511627776 % 256 = b5.toNat ∧ numOf 64 (Lib.leNat [b0, b1, b2, b3, b4, b5, b6, b7]) / 281474976710656 % 256 = b6.toNat ∧ numOf 64 (Lib.leNat [b0, b1, b2, b3, b4, b5, b6, b7]) / 72057594037927936 % 256 = b7.toNat := by
    rw [n64]; simp only [Lib.leNat]; omega
  refine (write10 _ hb.1 hb.2.1 W (hg 10 (by omega))).mono ?_
  rintro e w' ⟨rfl, hh, hbel⟩
  obtain ⟨-, -, h0, h1, h2, h3, h4, h5, h6, h7⟩ := hb
  rw [h0, h1, h2, h3, h4, h5, h6, h7] at hh
  exact ⟨_, rfl, R_bytes (nat [b0, b1, b2, b3, b4, b5, b6, b7]) hh (by simp [nat]), hbel⟩

theorem num11 (b0 b1 b2 b3 : UInt8) : spec_VLNumber.f 20 11 (nat [b0, b1, b2, b3]) = some (numOf 64 (Lib.leNat [b0, b1, b2, b3])) := by
  rw [number_f 11 [b0, b1, b2, b3] (by simp) (by simp)]
  rw [n64]; exact fin_u 11 _ _ _ (by simp) (by simp [spec_VLSigned.f])
theorem rd11 (b0 b1 b2 b3 : UInt8) : ReadsAs 11 (nat [b0, b1, b2, b3]) (numOf 64 (Lib.leNat [b0, b1, b2, b3])) := by
  intro W g c hg hl hC
  exact read11 b0 b1 b2 b3 W g c hg hl (C_cell hC 0 (by simp [nat])) (C_cell hC 1 (by simp [nat])) (C_cell hC 2 (by simp [nat])) (C_cell hC 3 (by simp [nat]))
theorem wr11 (b0 b1 b2 b3 : UInt8) : WritesAs 11 (nat [b0, b1, b2, b3]) (numOf 64 (Lib.leNat [b0, b1, b2, b3])) := by
  intro W hg
  have u0 := b0.toNat_lt
  have u1 := b1.toNat_lt
  have u2 := b2.toNat_lt
  have u3 := b3.toNat_lt
  have hb : 0 ≤ numOf 64 (Lib.leNat [b0, b1, b2, b3]) ∧ numOf 64 (Lib.leNat [b0, b1, b2, b3]) ≤ 18446744073709551615 ∧ numOf 64 (Lib.leNat [b0, b1, b2, b3]) % 256 = b0.toNat ∧ numOf 64 (Lib.leNat [b0, b1, b2, b3]) / 256 % 256 = b1.toNat ∧ numOf 64 (Lib.leNat [b0, b1, b2, b3]) / 65536 % 256 = b2.toNat ∧ numOf 64 (Lib.leNat [b0, b1, b2, b3]) / 16777216 % 256 = b3.toNat := by
    rw [n64]; simp only [Lib.leNat]; omega
  refine (write11 _ hb.1 hb.2.1 W (hg 11 (by omega))).mono ?_
  rintro e w' ⟨rfl, hh, hbel⟩
  obtain ⟨-, -, h0, h1, h2, h3⟩ := hb
  rw [h0, h1, h2, h3] at hh
  exact ⟨_, rfl, R_bytes (nat [b0, b1, b2, b3]) hh (by simp [nat]), hbel⟩

theorem num12 (b0 b1 b2 b3 b4 b5 b6 b7 : UInt8) : spec_VLNumber.f 20 12 (nat [b0, b1, b2, b3, b4, b5, b6, b7]) = some (numOf 64 (Lib.leNat [b0, b1, b2, b3, b4, b5, b6, b7])) := by
  rw [number_f 12 [b0, b1, b2, b3, b4, b5, b6, b7] (by simp) (by simp)]
  rw [n64]; exact fin_u 12 _ _ _ (by simp) (by simp [spec_VLSigned.f])
theorem rd12 (b0 b1 b2 b3 b4 b5 b6 b7 : UInt8) : ReadsAs 12 (nat [b0, b1, b2, b3, b4, b5, b6, b7]) (numOf 64 (Lib.leNat [b0, b1, b2, b3, b4, b5, b6, b7])) := by
  intro W g c hg hl hC
  exact read12 b0 b1 b2 b3 b4 b5 b6 b7 W g c hg hl (C_cell hC 0 (by simp [nat])) (C_cell hC 1 (by simp [nat])) (C_cell hC 2 (by simp [nat])) (C_cell hC 3 (by simp [nat])) (C_cell hC 4 (by simp [nat])) (C_cell hC 5 (by simp [nat])) (C_cell hC 6 (by simp [nat])) (C_cell hC 7 (by simp [nat]))
theorem wr12 (b0 b1 b2 b3 b4 b5 b6 b7 : UInt8) : WritesAs 12 (nat [b0, b1, b2, b3, b4, b5, b6, b7]) (numOf 64 (Lib.leNat [b0, b1, b2, b3, b4, b5, b6, b7])) := by
  intro W hg
  have u0 := b0.toNat_lt
  have u1 := b1.toNat_lt
  have u2 := b2.toNat_lt
  have u3 := b3.toNat_lt
  have u4 := b4.toNat_lt
  have u5 := b5.toNat_lt
  have u6 := b6.toNat_lt
  have u7 := b7.toNat_lt
  have hb : 0 ≤ numOf 64 (Lib.leNat [b0, b1, b2, b3, b4, b5, b6, b7]) ∧ numOf 64 (Lib.leNat [b0, b1, b2, b3, b4, b5, b6, b7]) ≤ 18446744073709551615 ∧ numOf 64 (Lib.leNat [b0, b1, b2, b3, b4, b5, b6, b7]) % 256 = b0.toNat ∧ numOf 64 (Lib.leNat [b0, b1, b2, b3, b4, b5, b6, b7]) / 256 % 256 = b1.toNat ∧ numOf 64 (Lib.leNat [b0, b1, b2, b3, b4, b5, b6, b7]) / 65536 % 256 = b2.toNat ∧ numOf 64 (Lib.leNat [b0, b1, b2, b3, b4, b5, b6, b7]) / 16777216 % 256 = b3.toNat ∧ numOf 64 (Lib.leNat [b0, b1, b2, b3, b4, b5, b6, b7]) / 4294967296 % 256 = b4.toNat ∧ numOf 64 (Lib.leNat [b0, b1, b2, b3, b4, b5, b6, b7]) / 1099511627776 % 256 = b5.toNat ∧ numOf 64 (Lib.leNat [b0, b1, b2, b3, b4, b5, b6, b7]) / 281474976710656 % 256 = b6.toNat ∧ numOf 64 (Lib.leNat [b0, b1, b2, b3, b4, b5, b6, b7]) / 72057594037927936 % 256 = b7.toNat := by
    rw [n64]; simp only [Lib.leNat]; omega
  refine (write12 _ hb.1 hb.2.1 W (hg 12 (by omega))).mono ?_
  rintro e w' ⟨rfl, hh, hbel⟩
  obtain ⟨-, -, h0, h1, h2, h3, h4, h5, h6, h7⟩ := hb
  rw [h0, h1, h2, h3, h4, h5, h6, h7] at hh
  exact ⟨_, rfl, R_bytes (nat [b0, b1, b2, b3, b4, b5, b6, b7]) hh (by simp [nat]), hbel⟩

theorem num13 (b0 b1 b2 b3 b4 b5 : UInt8) : spec_VLNumber.f 20 13 (nat [b0, b1, b2, b3, b4, b5]) = some (numOf 64 (Lib.leNat [b0, b1, b2, b3, b4, b5])) := by
  rw [number_f 13 [b0, b1, b2, b3, b4, b5] (by simp) (by simp)]
  rw [n64]; exact fin_u 13 _ _ _ (by simp) (by simp [spec_VLSigned.f])
theorem rd13 (b0 b1 b2 b3 b4 b5 : UInt8) : ReadsAs 13 (nat [b0, b1, b2, b3, b4, b5]) (numOf 64 (Lib.leNat [b0, b1, b2, b3, b4, b5])) := by
  intro W g c hg hl hC
  exact read13 b0 b1 b2 b3 b4 b5 W g c hg hl (C_cell hC 0 (by simp [nat])) (C_cell hC 1 (by simp [nat])) (C_cell hC 2 (by simp [nat])) (C_cell hC 3 (by simp [nat])) (C_cell hC 4 (by simp [nat])) (C_cell hC 5 (by simp [nat]))
theorem wr13 (b0 b1 b2 b3 b4 b5 : UInt8) : WritesAs 13 (nat [b0, b1, b2, b3, b4, b5]) (numOf 64 (Lib.leNat [b0, b1, b2, b3, b4, b5])) := by
  intro W hg
  have u0 := b0.toNat_lt
  have u1 := b1.toNat_lt
  have u2 := b2.toNat_lt
  have u3 := b3.toNat_lt
  have u4 := b4.toNat_lt
  have u5 := b5.toNat_lt
  have hb : 0 ≤ numOf 64 (Lib.leNat [b0, b1, b2, b3, b4, b5]) ∧ numOf 64 (Lib.leNat [b0, b1, b2, b3, b4, b5]) ≤ 18446744073709551615 ∧ numOf 64 (Lib.leNat [b0, b1, b2, b3, b4, b5]) % 256 = b0.toNat ∧ numOf 64 (Lib.leNat [b0, b1, b2, b3, b4, b5]) / 256 % 256 = b1.toNat ∧ numOf 64 (Lib.leNat [b0, b1, b2, b3, b4, b5]) / 65536 % 256 = b2.toNat ∧ numOf 64 (Lib.leNat [b0, b1, b2, b3, b4, b5]) / 16777216 % 256 = b3.toNat ∧ numOf 64 (Lib.leNat [b0, b1, b2, b3, b4, b5]) / 4294967296 % 256 = b4.toNat ∧ numOf 64 (Lib.leNat [b0, b1, b2, b3, b4, b5]) / 1099511627776 % 256 = b5.toNat := by
    rw [n64]; simp only [Lib.leNat]; omega
  refine (write13 _ hb.1 hb.2.1 W (hg 13 (by omega))).mono ?_
  rintro e w' ⟨rfl, hh, hbel⟩
  obtain ⟨-, -, h0, h1, h2, h3, h4, h5⟩ := hb
  rw [h0, h1, h2, h3, h4, h5] at hh
  exact ⟨_, rfl, R_bytes (nat [b0, b1, b2, b3, b4, b5]) hh (by simp [nat]), hbel⟩

theorem num14 (b0 b1 b2 b3 b4 b5 : UInt8) : spec_VLNumber.f 20 14 (nat [b0, b1, b2, b3, b4, b5]) = some (numOf 64 (Lib.leNat [b0, b1, b2, b3, b4, b5])) := by
  rw [number_f 14 [b0, b1, b2, b3, b4, b5] (by simp) (by simp)]
  rw [n64]; exact fin_u 14 _ _ _ (by simp) (by simp [spec_VLSigned.f])
theorem rd14 (b0 b1 b2 b3 b4 b5 : UInt8) : ReadsAs 14 (nat [b0, b1, b2, b3, b4, b5]) (numOf 64 (Lib.leNat [b0, b1, b2, b3, b4, b5])) := by
  intro W g c hg hl hC
  exact read14 b0 b1 b2 b3 b4 b5 W g c hg hl (C_cell hC 0 (by simp [nat])) (C_cell hC 1 (by simp [nat])) (C_cell hC 2 (by simp [nat])) (C_cell hC 3 (by simp [nat])) (C_cell hC 4 (by simp [nat])) (C_cell hC 5 (by simp [nat]))
theorem wr14 (b0 b1 b2 b3 b4 b5 : UInt8) : WritesAs 14 (nat [b0, b1, b2, b3, b4, b5]) (numOf 64 (Lib.leNat [b0, b1, b2, b3, b4, b5])) := by
  intro W hg
  have u0 := b0.toNat_lt
  have u1 := b1.toNat_lt
  have u2 := b2.toNat_lt
  have u3 := b3.toNat_lt
  have u4 := b4.toNat_lt
  have u5 := b5.toNat_lt
  have hb : 0 ≤ numOf 64 (Lib.leNat [b0, b1, b2, b3, b4, b5]) ∧ numOf 64 (Lib.leNat [b0, b1, b2, b3, b4, b5]) ≤ 18446744073709551615 ∧ numOf 64 (Lib.leNat [b0, b1, b2, b3, b4, b5]) % 256 = b0.toNat ∧ numOf 64 (Lib.leNat [b0, b1, b2, b3, b4, b5]) / 256 % 256 = b1.toNat ∧ numOf 64 (Lib.leNat [b0, b1, b2, b3, b4, b5]) / 65536 % 256 = b2.toNat ∧ numOf 64 (Lib.leNat [b0, b1, b2, b3, b4, b5]) / 16777216 % 256 = b3.toNat ∧ numOf 64 (Lib.leNat [b0, b1, b2, b3, b4, b5]) / 4294967296 % 256 = b4.toNat ∧ numOf 64 (Lib.leNat [b0, b1, b2, b3, b4, b5]) / 1099511627776 % 256 = b5.toNat := by
    rw [n64]; simp only [Lib.leNat]; omega
  refine (write14 _ hb.1 hb.2.1 W (hg 14 (by omega))).mono ?_
  rintro e w' ⟨rfl, hh, hbel⟩
  obtain ⟨-, -, h0, h1, h2, h3, h4, h5⟩ := hb
  rw [h0, h1, h2, h3, h4, h5] at hh
  exact ⟨_, rfl, R_bytes (nat [b0, b1, b2, b3, b4, b5]) hh (by simp [nat]), hbel⟩

theorem kind_at (a0 : Int) (j : Nat) (h0 : 0 ≤ a0) (h : a0 % 12 = j) (hj : j < 12) : laws_vlKind.f a0 = some (rd [1, 2, 3, 4, 7, 8, 9, 10, 11, 12, 13, 14] (j : Int)) := by
  have e : Int.tmod a0 12 = (j : Int) := by rw [Int.tmod_eq_emod_of_nonneg h0]; exact h
  unfold laws_vlKind.f
  simp only [Option.bind_some, e]
  rw [if_pos (by omega), if_pos (by simp; omega)]
theorem byte_of (x : Int) (h0 : 0 ≤ x) (h1 : x ≤ 255) : ∃ b : UInt8, x = (b.toNat : Int) := ⟨UInt8.ofNat x.toNat, by
  have : (UInt8.ofNat x.toNat).toNat = x.toNat := by simp; omega
  omega⟩
theorem law_true (a0 : Int) (h0 : 0 ≤ a0) (x0 x1 x2 x3 x4 x5 x6 x7 : Int) (hx0 : 0 ≤ x0 ∧ x0 ≤ 255) (hx1 : 0 ≤ x1 ∧ x1 ≤ 255) (hx2 : 0 ≤ x2 ∧ x2 ≤ 255) (hx3 : 0 ≤ x3 ∧ x3 ≤ 255) (hx4 : 0 ≤ x4 ∧ x4 ≤ 255) (hx5 : 0 ≤ x5 ∧ x5 ≤ 255) (hx6 : 0 ≤ x6 ∧ x6 ≤ 255) (hx7 : 0 ≤ x7 ∧ x7 ≤ 255) (w : World) (hg : Glob w) :
    Calls Tryd.prog 5 #[.int .u8 a0, .agg #[.int .u8 x0, .int .u8 x1, .int .u8 x2, .int .u8 x3, .int .u8 x4, .int .u8 x5, .int .u8 x6, .int .u8 x7]] w fun e w' => e = .returned (.bool true) ∧ Below w.heap.size w w' := by
  obtain ⟨b0, rfl⟩ := byte_of x0 hx0.1 hx0.2
  obtain ⟨b1, rfl⟩ := byte_of x1 hx1.1 hx1.2
  obtain ⟨b2, rfl⟩ := byte_of x2 hx2.1 hx2.2
  obtain ⟨b3, rfl⟩ := byte_of x3 hx3.1 hx3.2
  obtain ⟨b4, rfl⟩ := byte_of x4 hx4.1 hx4.2
  obtain ⟨b5, rfl⟩ := byte_of x5 hx5.1 hx5.2
  obtain ⟨b6, rfl⟩ := byte_of x6 hx6.1 hx6.2
  obtain ⟨b7, rfl⟩ := byte_of x7 hx7.1 hx7.2
  have hc : a0 % 12 = 0 ∨ a0 % 12 = 1 ∨ a0 % 12 = 2 ∨ a0 % 12 = 3 ∨ a0 % 12 = 4 ∨ a0 % 12 = 5 ∨ a0 % 12 = 6 ∨ a0 % 12 = 7 ∨ a0 % 12 = 8 ∨ a0 % 12 = 9 ∨ a0 % 12 = 10 ∨ a0 % 12 = 11 := by omega
  rcases hc with h | h | h | h | h | h | h | h | h | h | h | h
  · exact reads a0 b0.toNat b1.toNat b2.toNat b3.toNat b4.toNat b5.toNat b6.toNat b7.toNat 1 (nat [b0]) rfl rfl 1 _ w hg (kind_at a0 0 h0 h (by decide)) rfl (by decide) (by decide) (num1 b0) (rd1 b0) (wr1 b0)
  · exact reads a0 b0.toNat b1.toNat b2.toNat b3.toNat b4.toNat b5.toNat b6.toNat b7.toNat 1 (nat [b0]) rfl rfl 2 _ w hg (kind_at a0 1 h0 h (by decide)) rfl (by decide) (by decide) (num2 b0) (rd2 b0) (wr2 b0)
  · exact reads a0 b0.toNat b1.toNat b2.toNat b3.toNat b4.toNat b5.toNat b6.toNat b7.toNat 2 (nat [b0, b1]) rfl rfl 3 _ w hg (kind_at a0 2 h0 h (by decide)) rfl (by decide) (by decide) (num3 b0 b1) (rd3 b0 b1) (wr3 b0 b1)
  · exact reads a0 b0.toNat b1.toNat b2.toNat b3.toNat b4.toNat b5.toNat b6.toNat b7.toNat 2 (nat [b0, b1]) rfl rfl 4 _ w hg (kind_at a0 3 h0 h (by decide)) rfl (by decide) (by decide) (num4 b0 b1) (rd4 b0 b1) (wr4 b0 b1)
  · exact reads a0 b0.toNat b1.toNat b2.toNat b3.toNat b4.toNat b5.toNat b6.toNat b7.toNat 4 (nat [b0, b1, b2, b3]) rfl rfl 7 _ w hg (kind_at a0 4 h0 h (by decide)) rfl (by decide) (by decide) (num7 b0 b1 b2 b3) (rd7 b0 b1 b2 b3) (wr7 b0 b1 b2 b3)
  · exact reads a0 b0.toNat b1.toNat b2.toNat b3.toNat b4.toNat b5.toNat b6.toNat b7.toNat 4 (nat [b0, b1, b2, b3]) rfl rfl 8 _ w hg (kind_at a0 5 h0 h (by decide)) rfl (by decide) (by decide) (num8 b0 b1 b2 b3) (rd8 b0 b1 b2 b3) (wr8 b0 b1 b2 b3)
  · exact reads a0 b0.toNat b1.toNat b2.toNat b3.toNat b4.toNat b5.toNat b6.toNat b7.toNat 8 (nat [b0, b1, b2, b3, b4, b5, b6, b7]) rfl rfl 9 _ w hg (kind_at a0 6 h0 h (by decide)) rfl (by decide) (by decide) (num9 b0 b1 b2 b3 b4 b5 b6 b7) (rd9 b0 b1 b2 b3 b4 b5 b6 b7) (wr9 b0 b1 b2 b3 b4 b5 b6 b7)
  · exact reads a0 b0.toNat b1.toNat b2.toNat b3.toNat b4.toNat b5.toNat b6.toNat b7.toNat 8 (nat [b0, b1, b2, b3, b4, b5, b6, b7]) rfl rfl 10 _ w hg (kind_at a0 7 h0 h (by decide)) rfl (by decide) (by decide) (num10 b0 b1 b2 b3 b4 b5 b6 b7) (rd10 b0 b1 b2 b3 b4 b5 b6 b7) (wr10 b0 b1 b2 b3 b4 b5 b6 b7)
  · exact reads a0 b0.toNat b1.toNat b2.toNat b3.toNat b4.toNat b5.toNat b6.toNat b7.toNat 4 (nat [b0, b1, b2, b3]) rfl rfl 11 _ w hg (kind_at a0 8 h0 h (by decide)) rfl (by decide) (by decide) (num11 b0 b1 b2 b3) (rd11 b0 b1 b2 b3) (wr11 b0 b1 b2 b3)
  · exact reads a0 b0.toNat b1.toNat b2.toNat b3.toNat b4.toNat b5.toNat b6.toNat b7.toNat 8 (nat [b0, b1, b2, b3, b4, b5, b6, b7]) rfl rfl 12 _ w hg (kind_at a0 9 h0 h (by decide)) rfl (by decide) (by decide) (num12 b0 b1 b2 b3 b4 b5 b6 b7) (rd12 b0 b1 b2 b3 b4 b5 b6 b7) (wr12 b0 b1 b2 b3 b4 b5 b6 b7)
  · exact reads a0 b0.toNat b1.toNat b2.toNat b3.toNat b4.toNat b5.toNat b6.toNat b7.toNat 6 (nat [b0, b1, b2, b3, b4, b5]) rfl rfl 13 _ w hg (kind_at a0 10 h0 h (by decide)) rfl (by decide) (by decide) (num13 b0 b1 b2 b3 b4 b5) (rd13 b0 b1 b2 b3 b4 b5) (wr13 b0 b1 b2 b3 b4 b5)
  · exact reads a0 b0.toNat b1.toNat b2.toNat b3.toNat b4.toNat b5.toNat b6.toNat b7.toNat 6 (nat [b0, b1, b2, b3, b4, b5]) rfl rfl 14 _ w hg (kind_at a0 11 h0 h (by decide)) rfl (by decide) (by decide) (num14 b0 b1 b2 b3 b4 b5) (rd14 b0 b1 b2 b3 b4 b5) (wr14 b0 b1 b2 b3 b4 b5)
end Go.Proofs.YthicaehcoingeaaDoor.PVL
