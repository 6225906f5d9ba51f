/-
  Contracts of impl.TXPad and of what it calls, over this seat's translation: what TXPad answers, where the lengths are small. Conditions: the number is from 0 to 1000, the texts have at most 1000 bytes, the second one at least one.
-/
import Derived.Test.YthicaehcoingeaaPTX0
import Derived.Test.YthicaehcoingeaaShelf
import Derived.Defers
import Derived.Recover
import Derived.Deep.RegionWith
import Derived.WalkSpells
import Derived.Lib.Hide
namespace Go.Proofs.Ythicaehcoingeaa.PTX
open Go.RowKit Go.Proofs.YthicaehcoingeaaW.PrintWords Go.Proofs.YthicaehcoingeaaW.PrintLast Go.Proofs.YthicaehcoingeaaW.PrintMore
set_option linter.unusedVariables false

def rep (p : List UInt8) (m : Nat) : List UInt8 := (List.replicate m p).flatten
theorem rep_len (p : List UInt8) (m : Nat) : (rep p m).length = m * p.length := by simp [rep]
theorem rep_succ (p : List UInt8) (m : Nat) : rep p (m + 1) = rep p m ++ p := by
  unfold rep; rw [List.replicate_succ', List.flatten_append]; simp
theorem rep_take (p : List UInt8) (m a b : Nat) (ha : m ≤ a * p.length) (hb : m ≤ b * p.length) : (rep p a).take m = (rep p b).take m := by
  have key : ∀ c d, (rep p (c + d)).take (c * p.length) = rep p c := by
    intro c d
    have : rep p (c + d) = rep p c ++ rep p d := by unfold rep; rw [← List.replicate_append_replicate, List.flatten_append]
    rw [this, ← rep_len, List.take_left']
    rfl
  rcases Nat.le_total a b with h | h
  · obtain ⟨d, rfl⟩ := Nat.exists_eq_add_of_le h
    rw [← key a d, List.take_take, Nat.min_eq_left ha]
  · obtain ⟨d, rfl⟩ := Nat.exists_eq_add_of_le h
    rw [← key b d, List.take_take, Nat.min_eq_left hb]
def fillL (p : List UInt8) (m : Nat) : List UInt8 := (rep p m).take m
theorem fillL_len (p : List UInt8) (m : Nat) (hp : 0 < p.length) : (fillL p m).length = m := by
  unfold fillL; rw [List.length_take, rep_len]; exact Nat.min_eq_left (Nat.le_mul_of_pos_right _ hp)
theorem fill_of (p : List UInt8) (m j : Nat) (hp : 0 < p.length) (hj : m ≤ j * p.length) : (rep p j).take m = fillL p m :=
  rep_take p m j m hj (Nat.le_mul_of_pos_right _ hp)
theorem fill_divmod (p : List UInt8) (m : Nat) (hp : 0 < p.length) : rep p (m / p.length) ++ p.take (m % p.length) = fillL p m := by
  have hm := Nat.div_add_mod m p.length
  have hlt := Nat.mod_lt m hp
  have hq : (rep p (m / p.length)).length = p.length * (m / p.length) := by rw [rep_len, Nat.mul_comm]
  have hr : m - (rep p (m / p.length)).length = m % p.length := by omega
  rw [← fill_of p m (m / p.length + 1) hp (by rw [Nat.add_mul, Nat.mul_comm]; omega), rep_succ, List.take_append, hr]
  rw [List.take_of_length_le (l := rep p (m / p.length)) (by omega)]
def padL (left : Bool) (s : List UInt8) (n : Nat) (p : List UInt8) : List UInt8 :=
  if n ≤ s.length then s.take n else if left then fillL p (n - s.length) ++ s else s ++ fillL p (n - s.length)

theorem repeatL_rep (l : List UInt8) : ∀ c, Lib.repeatL l c = rep l c
  | 0 => by simp [Lib.repeatL, rep]
  | c + 1 => by simp [Lib.repeatL, repeatL_rep l c, rep, List.replicate_succ]

theorem divmod_ok (a b : Int) (h0 : 0 ≤ a) (h1 : a ≤ 1000) (h2 : 1 ≤ b) (h3 : b ≤ 1000) (w : World) :
    Calls Try.prog 19 #[.int .i64 a, .int .i64 b] w fun e w' => e = .returned (.tuple #[.int .i64 (a / b), .int .i64 (a % b), .nilIface]) ∧ w = w' := by
  have hb : (b == 0) = false := beq_eq_false_iff_ne.2 (by omega)
  go_enter Try.func19, Try.ntmps19
  go_wp2
  go_ret3
  exact ⟨rfl, rfl⟩

theorem repeat_ok (p : ByteArray) (c : Int) (h0 : 0 ≤ c) (h1 : c ≤ 1000) (hp : p.size ≤ 1000) (w : World) :
    Calls Try.prog 20 #[.string p, .int .i64 c] w fun e w' => e = .returned (.string ⟨(rep p.data.toList c.toNat).toArray⟩) ∧ Below w.heap.size w w' := by
  obtain ⟨n, rfl⟩ := Int.eq_ofNat_of_zero_le h0
  have := Nat.mul_le_mul hp (show n ≤ 1000 by omega)
  refine (Try.strings_Repeat p n w (by omega) (by omega)).mono ?_
  rintro e w' ⟨rfl, hb⟩
  exact ⟨by rw [repeatL_rep, Int.toNat_natCast], hb⟩

theorem repeat_var (p : ByteArray) (c : Int) (h0 : 0 ≤ c) (h1 : c ≤ 1000) (hp : p.size ≤ 1000) (w : World) :
    Calls Try.prog 20 #[.string p, .int .i64 c] w fun e w' => ∃ R : ByteArray, e = .returned (.string R) ∧ R.size ≤ 1000000 ∧ Hid ((R.size : Int) = c * p.size) ∧ Hid (R.data.toList = rep p.data.toList c.toNat) ∧ Below w.heap.size w w' := by
  refine (repeat_ok p c h0 h1 hp w).mono ?_
  rintro e w' ⟨rfl, hb⟩
  have hm := Nat.mul_le_mul (show c.toNat ≤ 1000 by omega) hp
  have hl : (rep p.data.toList c.toNat).length = c.toNat * p.size := by rw [rep_len]; rfl
  refine ⟨_, rfl, ?_, Lib.hid ?_, Lib.hid rfl, hb⟩
  · show (rep p.data.toList c.toNat).length ≤ 1000000
    rw [hl]; exact hm
  · show ((rep p.data.toList c.toNat).length : Int) = c * p.size
    rw [hl, Int.natCast_mul, Int.toNat_of_nonneg h0]

theorem len_eq (m : Int) (p : Nat) (R : Nat) (h : (R : Int) = (m / (p : Int)) * p) (_h : 0 ≤ m % (p : Int)) : (R : Int) + m % (p : Int) ≤ m ∧ m ≤ (R : Int) + m % (p : Int) := by
  have := Int.ediv_mul_add_emod m p
  omega

theorem ba_ext {a b : ByteArray} (h : a.data.toList = b.data.toList) : a = b := by
  cases a; cases b; simp only [ByteArray.mk.injEq]; exact Array.toList_inj.1 h
theorem take_ba (s : ByteArray) (n : Nat) : s.extract 0 n = ⟨(s.data.toList.take n).toArray⟩ := by
  apply ba_ext; simp

theorem nums_of (n : Int) (a b : Nat) (h : (a : Int) < n) : ((n - a) / (b : Int)).toNat = (n.toNat - a) / b ∧ ((n - a) % (b : Int)).toNat = (n.toNat - a) % b := by
  obtain ⟨m, rfl⟩ := Int.eq_ofNat_of_zero_le (show 0 ≤ n by omega)
  rw [Int.toNat_natCast, show ((m : Int) - a) = ((m - a : Nat) : Int) from by omega, ← Int.natCast_ediv, ← Int.natCast_emod]
  exact ⟨Int.toNat_natCast _, Int.toNat_natCast _⟩
theorem left_eq (s p R : ByteArray) (n : Int) (h1 : (s.size : Int) < n) (hp0 : 0 < p.size) (hR : R.data.toList = rep p.data.toList ((n - s.size) / (p.size : Int)).toNat) :
    (R ++ p.extract 0 ((n - s.size) % (p.size : Int)).toNat ++ s).extract 0 n.toNat = ⟨(padL true s.data.toList n.toNat p.data.toList).toArray⟩ := by
  obtain ⟨e1, e2⟩ := nums_of n s.size p.size h1
  rw [e1] at hR
  rw [e2]
  have hp : p.data.toList.length = p.size := rfl
  have hs : s.data.toList.length = s.size := rfl
  have hf := fill_divmod p.data.toList (n.toNat - s.size) hp0
  have hl := fillL_len p.data.toList (n.toNat - s.size) hp0
  have hn : ¬ (n.toNat ≤ s.size) := by omega
  apply ba_ext
  simp only [take_ba, padL, hs, if_neg hn, if_true, ByteArray.data_append, Array.toList_append, hR]
  rw [hp] at hf
  rw [hf]
  exact List.take_of_length_le (by rw [List.length_append, hl, hs]; omega)
theorem right_eq (s p R : ByteArray) (n : Int) (h1 : (s.size : Int) < n) (hp0 : 0 < p.size) (hR : R.data.toList = rep p.data.toList ((n - s.size) / (p.size : Int)).toNat) :
    (s ++ R ++ p.extract 0 ((n - s.size) % (p.size : Int)).toNat) = ⟨(padL false s.data.toList n.toNat p.data.toList).toArray⟩ := by
  obtain ⟨e1, e2⟩ := nums_of n s.size p.size h1
  rw [e1] at hR
  rw [e2]
  have hp : p.data.toList.length = p.size := rfl
  have hs : s.data.toList.length = s.size := rfl
  have hf := fill_divmod p.data.toList (n.toNat - s.size) hp0
  have hn : ¬ (n.toNat ≤ s.size) := by omega
  apply ba_ext
  simp only [take_ba, padL, hs, if_neg hn, Bool.false_eq_true, if_false, ByteArray.data_append, Array.toList_append, hR]
  rw [hp] at hf
  rw [List.append_assoc, hf]

theorem whole_ba (X : ByteArray) (a b : Nat) (ha : a = 0) (hb : X.size ≤ b) : X.extract a b = X := by
  subst ha
  rw [take_ba]
  apply ba_ext
  simp only
  exact List.take_of_length_le (by show X.size ≤ b; exact hb)
theorem right_all (s p R : ByteArray) (n : Int) (h1 : (s.size : Int) < n) (hp0 : 0 < p.size) (hR : R.data.toList = rep p.data.toList ((n - s.size) / (p.size : Int)).toNat)
    (f0 : (R.size : Int) + (n - s.size) % (p.size : Int) ≤ n - s.size ∧ n - s.size ≤ (R.size : Int) + (n - s.size) % (p.size : Int)) (r0 : 0 ≤ (n - s.size) % (p.size : Int)) :
    (s ++ R ++ p.extract 0 ((n - s.size) % (p.size : Int)).toNat).extract ((s.size : Int) + R.size + max ((n - s.size) % (p.size : Int)) 0 - n).toNat (s.size + R.size + ((n - s.size) % (p.size : Int)).toNat) = ⟨(padL false s.data.toList n.toNat p.data.toList).toArray⟩ := by
  rw [whole_ba _ _ _ (by omega) (by simp; omega), right_eq s p R n h1 hp0 hR]

theorem pad_cut (s p : ByteArray) (n t : Int) (h0 : 0 ≤ n) (h1 : n ≤ s.size) (hs : s.size ≤ 1000) (w : World) :
    Calls Try.prog 18 #[.string s, .int .i64 n, .string p, .int .i32 t] w fun e w' => e = .returned (.tuple #[.string (s.extract 0 n.toNat), .nilIface]) ∧ Below w.heap.size w w' := by
  by_cases hn : n = 0
  · subst hn
    have e : s.extract 0 (Int.toNat 0) = ⟨#[]⟩ := by rw [take_ba]; rfl
    have E := Lib.hid e
    clear e
    go_enter Try.func18, Try.ntmps18
    go_wp2
    go_ret2
    exact ⟨by rw [E.out]; rfl, Below.refl _ _⟩
  · have h2 : ¬ n ≤ 0 := by omega
    go_enter Try.func18, Try.ntmps18
    go_wp2
    go_ret2
    exact ⟨rfl, Below.refl _ _⟩

set_option maxRecDepth 100000 in
theorem pad_left (s p : ByteArray) (n : Int) (h1 : (s.size : Int) < n) (hn : n ≤ 1000) (hp0 : 0 < p.size) (hp : p.size ≤ 1000) (w : World) :
    Calls Try.prog 18 #[.string s, .int .i64 n, .string p, .int .i32 108] w fun e w' => e = .returned (.tuple #[.string ⟨(padL true s.data.toList n.toNat p.data.toList).toArray⟩, .nilIface]) ∧ Below w.heap.size w w' := by
  have h2 : ¬ n ≤ 0 := by omega
  have h3 : ((p.size : Int) == 0) = false := beq_eq_false_iff_ne.2 (by omega)
  have h4 : ¬ (n ≤ s.size) := by omega
  have d0 : (0 : Int) ≤ (n - s.size) / (p.size : Int) := Int.ediv_nonneg (by omega) (by omega)
  have d1 : (n - s.size) / (p.size : Int) ≤ 1000 := Int.le_trans (Int.ediv_le_self _ (by omega)) (by omega)
  have r0 : (0 : Int) ≤ (n - s.size) % (p.size : Int) := Int.emod_nonneg _ (by omega)
  have r1 : (n - s.size) % (p.size : Int) < p.size := Int.emod_lt_of_pos _ (by omega)
  go_enter Try.func18, Try.ntmps18
  go_wp2_with (go_at_call 19; refine (divmod_ok _ _ (by omega) (by omega) (by omega) (by omega) _).mono ?_; rintro e w' ⟨rfl, rfl⟩)
  go_region_with (go_at_call 20; refine (repeat_var _ _ d0 d1 hp _).mono ?_; rintro e w' ⟨R, rfl, hR, HS, HR, hb⟩; have f0 := len_eq _ _ _ HS.out r0; have f1 : ¬ 9223372036854775807 < R.size + ((n - s.size) % (p.size : Int)).toNat := (by omega); have f2 : ¬ 9223372036854775807 < R.size + ((n - s.size) % (p.size : Int)).toNat + s.size := (by omega))
  all_goals go_wp2
  all_goals go_ret2
  all_goals exact ⟨by rw [← left_eq s p R n h1 hp0 HR.out]; rfl, below_then (below_drew (Below.refl _ _)) (by simp) hb⟩

set_option maxRecDepth 100000 in
theorem pad_right (s p : ByteArray) (n : Int) (h1 : (s.size : Int) < n) (hn : n ≤ 1000) (hp0 : 0 < p.size) (hp : p.size ≤ 1000) (w : World) :
    Calls Try.prog 18 #[.string s, .int .i64 n, .string p, .int .i32 114] w fun e w' => e = .returned (.tuple #[.string ⟨(padL false s.data.toList n.toNat p.data.toList).toArray⟩, .nilIface]) ∧ Below w.heap.size w w' := by
  have h2 : ¬ n ≤ 0 := by omega
  have h3 : ((p.size : Int) == 0) = false := beq_eq_false_iff_ne.2 (by omega)
  have h4 : ¬ (n ≤ s.size) := by omega
  have d0 : (0 : Int) ≤ (n - s.size) / (p.size : Int) := Int.ediv_nonneg (by omega) (by omega)
  have d1 : (n - s.size) / (p.size : Int) ≤ 1000 := Int.le_trans (Int.ediv_le_self _ (by omega)) (by omega)
  have r0 : (0 : Int) ≤ (n - s.size) % (p.size : Int) := Int.emod_nonneg _ (by omega)
  have r1 : (n - s.size) % (p.size : Int) < p.size := Int.emod_lt_of_pos _ (by omega)
  go_enter Try.func18, Try.ntmps18
  go_wp2_with (go_at_call 19; refine (divmod_ok _ _ (by omega) (by omega) (by omega) (by omega) _).mono ?_; rintro e w' ⟨rfl, rfl⟩)
  go_region_with (go_at_call 20; refine (repeat_var _ _ d0 d1 hp _).mono ?_; rintro e w' ⟨R, rfl, hR, HS, HR, hb⟩; have f0 := len_eq _ _ _ HS.out r0; have f1 : ¬ 9223372036854775807 < s.size + R.size := (by omega); have f2 : ¬ 9223372036854775807 < s.size + R.size + ((n - s.size) % (p.size : Int)).toNat := (by omega))
  all_goals go_wp2
  all_goals go_ret2
  all_goals exact ⟨by rw [← right_all s p R n h1 hp0 HR.out f0 r0]; rfl, below_then (below_drew (Below.refl _ _)) (by simp) hb⟩

theorem caught_idle (p : Addr) (w : World) :
    CallsD Try.prog 13 #[.pointer (some p)] .returning w fun e u' w' => e = .returned (.tuple #[]) ∧ u' = .returning ∧ w' = w := by
  refine callsD_of_wpS Try.func13 rfl fun c₀ cs hu => ?_
  apply wpS_seq
  apply wpS_region
  simp [wpOpsS, go_sem, recoverD, hu, Try.ntmps13, Exit.thenS]
  refine wpS_cond (t := false) (by simp [Act.eval, Array.replicate]) ?_
  simp only [Bool.false_eq_true, if_false]
  refine wpS_of_wp (wp_skip ?_)
  cases c₀
  simp_all [bodyPostS, results, Try.results13]


theorem padR (s p : ByteArray) (n : Int) (h0 : 0 ≤ n) (hn : n ≤ 1000) (hs : s.size ≤ 1000) (hp0 : 0 < p.size) (hp : p.size ≤ 1000) (w : World) :
    Calls Try.prog 18 #[.string s, .int .i64 n, .string p, .int .i32 114] w fun e w' => e = .returned (.tuple #[.string ⟨(padL false s.data.toList n.toNat p.data.toList).toArray⟩, .nilIface]) ∧ Below w.heap.size w w' := by
  by_cases h : n ≤ s.size
  · refine (pad_cut s p n 114 h0 h hs w).mono ?_
    rintro e w' ⟨rfl, hb⟩
    have hl : n.toNat ≤ s.data.toList.length := by show n.toNat ≤ s.size; omega
    exact ⟨by rw [take_ba, padL, if_pos hl], hb⟩
  · exact pad_right s p n (by omega) hn hp0 hp w
theorem padLe (s p : ByteArray) (n : Int) (h0 : 0 ≤ n) (hn : n ≤ 1000) (hs : s.size ≤ 1000) (hp0 : 0 < p.size) (hp : p.size ≤ 1000) (w : World) :
    Calls Try.prog 18 #[.string s, .int .i64 n, .string p, .int .i32 108] w fun e w' => e = .returned (.tuple #[.string ⟨(padL true s.data.toList n.toNat p.data.toList).toArray⟩, .nilIface]) ∧ Below w.heap.size w w' := by
  by_cases h : n ≤ s.size
  · refine (pad_cut s p n 108 h0 h hs w).mono ?_
    rintro e w' ⟨rfl, hb⟩
    have hl : n.toNat ≤ s.data.toList.length := by show n.toNat ≤ s.size; omega
    exact ⟨by rw [take_ba, padL, if_pos hl], hb⟩
  · exact pad_left s p n (by omega) hn hp0 hp w

theorem RPad_ok (s p : ByteArray) (n : Int) (h0 : 0 ≤ n) (hn : n ≤ 1000) (hs : s.size ≤ 1000) (hp0 : 0 < p.size) (hp : p.size ≤ 1000) (w : World) :
    Calls Try.prog 14 #[.string s, .int .i64 n, .string p] w fun e w' => e = .returned (.tuple #[.string ⟨(padL false s.data.toList n.toNat p.data.toList).toArray⟩, .nilIface]) ∧ Below w.heap.size w w' := by
  go_enter Try.func14, Try.ntmps14
  go_wp2_with (go_at_call 18; refine (padR s p n h0 hn hs hp0 hp _).mono ?_; rintro e w' ⟨rfl, hb⟩)
  go_ret2
  exact ⟨rfl, hb⟩
theorem LPad_ok (s p : ByteArray) (n : Int) (h0 : 0 ≤ n) (hn : n ≤ 1000) (hs : s.size ≤ 1000) (hp0 : 0 < p.size) (hp : p.size ≤ 1000) (w : World) :
    Calls Try.prog 15 #[.string s, .int .i64 n, .string p] w fun e w' => e = .returned (.tuple #[.string ⟨(padL true s.data.toList n.toNat p.data.toList).toArray⟩, .nilIface]) ∧ Below w.heap.size w w' := by
  go_enter Try.func15, Try.ntmps15
  go_wp2_with (go_at_call 18; refine (padLe s p n h0 hn hs hp0 hp _).mono ?_; rintro e w' ⟨rfl, hb⟩)
  go_ret2
  exact ⟨rfl, hb⟩

theorem new_cell {w w' : World} {v : Value} {t : TypeId} (hb : Below (w.alloc (.cells #[v] t)).heap.size (w.alloc (.cells #[v] t)) w') :
    w'.cell? ⟨w.heap.size, 0, none⟩ = some v ∧ w'.frozen? ⟨w.heap.size, 0, none⟩ = false ∧ Below w.heap.size w w' :=
  ⟨(hb.cell (p := ⟨w.heap.size, 0, none⟩) (by simp)).trans (by simp [go_sem]), (hb.frozen (p := ⟨w.heap.size, 0, none⟩) (by simp)).trans (by simp [go_sem]), below_then (below_alloc (Below.refl _ _) _) (by simp) hb⟩

theorem TXPad_true (s p : ByteArray) (n : Int) (h0 : 0 ≤ n) (hn : n ≤ 1000) (hs : s.size ≤ 1000) (hp0 : 0 < p.size) (hp : p.size ≤ 1000) (w : World) :
    Calls Try.prog 9 #[.bool true, .string s, .int .i64 n, .string p] w fun e w' => e = .returned (.tuple #[.string ⟨(padL true s.data.toList n.toNat p.data.toList).toArray⟩, .bool true]) ∧ Below w.heap.size w w' := by
  go_enter_defers Try.func9, Try.ntmps9
  go_wp2_with (go_at_call 15; refine (LPad_ok s p n h0 hn hs hp0 hp _).mono ?_; rintro e w' ⟨rfl, hb⟩)
  obtain ⟨hc, hz, hB⟩ := new_cell hb
  clear hb
  go_region
  all_goals go_wp2
  refine leaves_cons (f := 13) (args := #[.pointer (some ⟨w.heap.size, 0, none⟩)]) (by simp) (by simp [go_sem]) ?_
  refine (caught_idle ⟨w.heap.size, 0, none⟩ _).mono ?_
  rintro e u' w'' ⟨rfl, rfl, rfl⟩
  refine ⟨.tuple #[.string ⟨(padL true s.data.toList n.toNat p.data.toList).toArray⟩, .bool true], ?_, rfl, ?_⟩
  · simp [results, Try.results9, go_sem, hc]
  · exact below_drew (hB.setCell (Nat.le_refl _) _)
theorem TXPad_false (s p : ByteArray) (n : Int) (h0 : 0 ≤ n) (hn : n ≤ 1000) (hs : s.size ≤ 1000) (hp0 : 0 < p.size) (hp : p.size ≤ 1000) (w : World) :
    Calls Try.prog 9 #[.bool false, .string s, .int .i64 n, .string p] w fun e w' => e = .returned (.tuple #[.string ⟨(padL false s.data.toList n.toNat p.data.toList).toArray⟩, .bool true]) ∧ Below w.heap.size w w' := by
  go_enter_defers Try.func9, Try.ntmps9
  go_wp2_with (go_at_call 14; refine (RPad_ok s p n h0 hn hs hp0 hp _).mono ?_; rintro e w' ⟨rfl, hb⟩)
  obtain ⟨hc, hz, hB⟩ := new_cell hb
  clear hb
  go_region
  all_goals go_wp2
  refine leaves_cons (f := 13) (args := #[.pointer (some ⟨w.heap.size, 0, none⟩)]) (by simp) (by simp [go_sem]) ?_
  refine (caught_idle ⟨w.heap.size, 0, none⟩ _).mono ?_
  rintro e u' w'' ⟨rfl, rfl, rfl⟩
  refine ⟨.tuple #[.string ⟨(padL false s.data.toList n.toNat p.data.toList).toArray⟩, .bool true], ?_, rfl, ?_⟩
  · simp [results, Try.results9, go_sem, hc]
  · exact below_drew (hB.setCell (Nat.le_refl _) _)

def impl_TXPad.f (a0 : Bool) (a1 : ByteArray) (a2 : Int) (a3 : ByteArray) : Option (ByteArray × Bool) :=
  if 0 ≤ a2 ∧ a2 ≤ 1000 ∧ a1.size ≤ 1000 ∧ 0 < a3.size ∧ a3.size ≤ 1000 then some (⟨(padL a0 a1.data.toList a2.toNat a3.data.toList).toArray⟩, true) else none
theorem impl_TXPad.calls (a0 : Bool) (a1 : ByteArray) (a2 : Int) (a3 : ByteArray) (r1 : ByteArray) (r2 : Bool) (w : World) (h : impl_TXPad.f a0 a1 a2 a3 = some (r1, r2)) :
    Calls Try.prog 9 #[.bool a0, .string a1, .int .i64 a2, .string a3] w fun e w' => e = .returned (.tuple #[.string r1, .bool r2]) ∧ Below w.heap.size w w' := by
  unfold impl_TXPad.f at h
  split at h
  · rename_i hc
    obtain ⟨h0, h1, h2, h3, h4⟩ := hc
    simp only [Option.some.injEq, Prod.mk.injEq] at h
    obtain ⟨rfl, rfl⟩ := h
    cases a0
    · exact TXPad_false a1 a3 a2 h0 h1 h2 h3 h4 w
    · exact TXPad_true a1 a3 a2 h0 h1 h2 h3 h4 w
  · cases h
end Go.Proofs.Ythicaehcoingeaa.PTX
