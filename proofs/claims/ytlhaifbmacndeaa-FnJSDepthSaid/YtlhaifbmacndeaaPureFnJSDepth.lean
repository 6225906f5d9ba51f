/-
  What FnJSDepth computes is true: a value made of bytes is as deep as impl tells. No condition besides the bytes.
-/
import Derived.Test.YtlhaifbmacndeaaPJS3
namespace Go.Proofs.Ytlhaifbmacndeaa.Pure
open Go.RowKit Go.Proofs.Ytlhaifbmacndeaa.PJS Go.Proofs.YtlhaifbmacndeaaW.PrintWords Go.Proofs.YtlhaifbmacndeaaW.PrintLast
set_option maxRecDepth 100000

/-! ### the bits of a number: the rounds end -/
theorem l1_ok (k : Nat) (s m e : Int) (h : m < 9007199254740992) : ∃ r, spec_JSBits.l1 (k + 1) s m e = some r := by
  unfold spec_JSBits.l1
  rw [if_neg (by omega)]
  exact ⟨_, rfl⟩
theorem u64_id (m : Int) (h0 : 0 ≤ m) (h1 : m < 18446744073709551616) : IntKind.u64.wrap m = m := by
  unfold IntKind.wrap
  simp [IntKind.bits, IntKind.signed]
  omega
theorem l0_ok : ∀ (j : Nat) (m e s : Int), 1 ≤ m → (4503599627370496 : Int) ≤ m * 2 ^ j → m < 9007199254740992 → ∃ r, spec_JSBits.l0 (j + 3) s m e = some r
  | 0, m, e, s, h1, h2, h3 => by
    unfold spec_JSBits.l0
    rw [if_neg (by simp at h2; omega)]
    exact l1_ok _ _ _ _ h3
  | j + 1, m, e, s, h1, h2, h3 => by
    unfold spec_JSBits.l0
    by_cases hm : m < 4503599627370496
    · rw [if_pos hm, u64_id (m * 2) (by omega) (by omega)]
      refine l0_ok j (m * 2) _ s (by omega) ?_ (by omega)
      rw [Int.mul_assoc]
      rwa [Int.pow_succ, Int.mul_comm (2 ^ j) 2] at h2
    · rw [if_neg hm]
      exact l1_ok _ _ _ _ h3
theorem bits_some (n : Int) (h : -4503599627370496 ≤ n ∧ n ≤ 4503599627370496) : ∃ r, spec_JSBits.f 60 n = some r := by
  unfold spec_JSBits.f
  by_cases h0 : n = 0
  · rw [if_pos h0]; exact ⟨_, rfl⟩
  · rw [if_neg h0]
    have h52 : ∀ m : Int, 1 ≤ m → (4503599627370496 : Int) ≤ m * 2 ^ 56 := fun m hm => by omega
    by_cases hn : n < 0
    · rw [if_pos hn]
      have hw : wrap64 (-n) = -n := by unfold wrap64; omega
      rw [hw]
      show ∃ r, spec_JSBits.l0 59 _ (IntKind.u64.wrap (-n)) 1075 = some r
      rw [u64_id _ (by omega) (by omega)]
      exact l0_ok 56 _ _ _ (by omega) (h52 _ (by omega)) (by omega)
    · rw [if_neg hn]
      show ∃ r, spec_JSBits.l0 59 _ (IntKind.u64.wrap n) 1075 = some r
      rw [u64_id _ (by omega) (by omega)]
      exact l0_ok 56 _ _ _ (by omega) (h52 _ (by omega)) (by omega)
theorem bits_ok (n : Int) (h : -4503599627370496 ≤ n ∧ n ≤ 4503599627370496) : ∃ r, ∀ k, 60 ≤ k → spec_JSBits.f k n = some r := by
  obtain ⟨r, hr⟩ := bits_some n h
  refine ⟨r, fun k hk => ?_⟩
  obtain ⟨j, rfl⟩ : ∃ j, k = 60 + j := ⟨k - 60, by omega⟩
  clear hk
  induction j with
  | zero => exact hr
  | succ j ih => exact spec_JSBits.mono n (60 + j) r ih

/-! ### what is made of bytes -/
def G : Nat → S26 → Prop
  | 0, _ => False
  | d + 1, x => (x.f0 ≠ 4 → x.f0 ≠ 5 → x.f4 = []) ∧ (x.f0 = 5 → x.f3.length = x.f4.length ∧ x.f3.Nodup) ∧ x.f3.length ≤ 4 ∧ x.f4.length ≤ 4 ∧ (-4503599627370496 ≤ x.f1 ∧ x.f1 ≤ 4503599627370496) ∧ ∀ y ∈ x.f4, G d y
theorem num1_le (b : Int) : -128 ≤ num1 b ∧ num1 b ≤ 127 := by
  unfold num1 IntKind.wrap wrap64
  simp [IntKind.bits, IntKind.signed]
  omega
theorem w64_id (n : Int) (h : -9223372036854775808 ≤ n ∧ n < 9223372036854775808) : wrap64 n = n := by unfold wrap64; omega
theorem num4_le (b b1 b2 b3 : Int) (h1 : 0 ≤ b1 ∧ b1 < 256) (h2 : 0 ≤ b2 ∧ b2 < 256) (h3 : 0 ≤ b3 ∧ b3 < 256) : -4503599627370496 ≤ num4 b b1 b2 b3 ∧ num4 b b1 b2 b3 ≤ 4503599627370496 := by
  have hb := num1_le b
  unfold num4
  rw [w64_id (num1 b * 16777216) (by omega), w64_id (num1 b * 16777216 + b1 * 65536) (by omega), w64_id (num1 b * 16777216 + b1 * 65536 + b2 * 256) (by omega), w64_id _ (by omega)]
  omega
theorem G_leaf (d : Nat) (K : Int) (c : List Int) (h : okB c) : G (d + 1) (leafF K c).1 := by
  have h1 := byteF_ok h
  have h2 := byteF_ok h1.1
  have h3 := byteF_ok h2.1
  have h4 := byteF_ok h3.1
  have hn1 := num1_le (byteF c).1
  have hn4 := num4_le (byteF c).1 _ _ _ h2.2 h3.2 h4.2
  have hz : ∀ (k n : Int) (s : ByteArray), k ≠ 4 → k ≠ 5 → (-4503599627370496 ≤ n ∧ n ≤ 4503599627370496) → G (d + 1) ⟨k, n, s, [], []⟩ := fun k n s _ h5 hn => ⟨fun _ _ => rfl, fun e => absurd e h5, by simp, by simp, hn, fun y hy => by simp at hy⟩
  unfold leafF
  split
  · exact hz 0 0 _ (by decide) (by decide) (by omega)
  · split
    · exact hz 1 _ _ (by decide) (by decide) (by omega)
    · split
      · exact hz 2 _ _ (by decide) (by decide) (by omega)
      · split
        · exact hz 2 _ _ (by decide) (by decide) hn4
        · exact hz 3 0 _ (by decide) (by decide) (by omega)
theorem itemsA_G {g : List Int → Int → S26 × List Int × Int} {d : Nat} (hk : ∀ c l, okB c → okB (g c l).2.1) (hg : ∀ c l, okB c → G d (g c l).1) : ∀ (n : Nat) (c : List Int) (l : Int) (xs : List S26), okB c → (∀ y ∈ xs, G d y) → (∀ y ∈ (itemsA g n c l xs).1, G d y) ∧ (itemsA g n c l xs).1.length ≤ xs.length + n
  | 0, c, l, xs, _, h => ⟨h, Nat.le_refl _⟩
  | n + 1, c, l, xs, hc, h => by
    have ih := itemsA_G hk hg n (g c l).2.1 (g c l).2.2 (xs ++ [(g c l).1]) (hk c l hc) (fun y hy => by
      rcases List.mem_append.1 hy with hy | hy
      · exact h y hy
      · rw [List.mem_singleton.1 hy]; exact hg c l hc)
    refine ⟨ih.1, ?_⟩
    have := ih.2
    rw [List.length_append, List.length_singleton] at this
    show (itemsA g n (g c l).2.1 (g c l).2.2 (xs ++ [(g c l).1])).1.length ≤ _
    omega
theorem itemsO_G {g : List Int → Int → S26 × List Int × Int} {d : Nat} (hk : ∀ c l, okB c → okB (g c l).2.1) (hg : ∀ c l, okB c → G d (g c l).1) : ∀ (n : Nat) (c : List Int) (l : Int) (ns : List ByteArray) (xs : List S26), okB c → (∀ y ∈ xs, G d y) → ns.Nodup → ns.length = xs.length →
    (∀ y ∈ (itemsO g n c l ns xs).1.2, G d y) ∧ (itemsO g n c l ns xs).1.1.Nodup ∧ (itemsO g n c l ns xs).1.1.length = (itemsO g n c l ns xs).1.2.length ∧ (itemsO g n c l ns xs).1.2.length ≤ xs.length + n
  | 0, c, l, ns, xs, _, h, hd, hl => ⟨h, hd, hl, Nat.le_refl _⟩
  | n + 1, c, l, ns, xs, hc, h, hd, hl => by
    unfold itemsO
    split
    · obtain ⟨a1, a2, a3, a4⟩ := itemsO_G hk hg n (wordF c).2 l ns xs (wordF_ok hc) h hd hl
      exact ⟨a1, a2, a3, by omega⟩
    · next hne =>
      obtain ⟨a1, a2, a3, a4⟩ := itemsO_G hk hg n (g (wordF c).2 l).2.1 (g (wordF c).2 l).2.2 (ns ++ [(wordF c).1]) (xs ++ [(g (wordF c).2 l).1]) (hk _ l (wordF_ok hc)) (fun y hy => by
        rcases List.mem_append.1 hy with hy | hy
        · exact h y hy
        · rw [List.mem_singleton.1 hy]; exact hg _ l (wordF_ok hc)) (by
        rw [List.nodup_append]
        refine ⟨hd, by simp, ?_⟩
        intro a ha b hb he
        rw [List.mem_singleton.1 hb] at he
        exact hne (.inl (he ▸ ha))) (by simp [hl])
      refine ⟨a1, a2, a3, ?_⟩
      rw [List.length_append, List.length_singleton] at a4
      omega
theorem G_val : ∀ (f : Nat), f ≤ 6 → ∀ (c : List Int) (l : Int), okB c → G (f + 1) (valF f c l).1
  | 0, _, c, l, h => G_leaf 0 _ _ (byteF_ok h).1
  | f + 1, hf, c, l, h => by
    have hk := (valF_ok f (by omega)).1
    have hg : ∀ c l, okB c → G (f + 1) (valF f c l).1 := fun c l h => G_val f (by omega) c l h
    have hc1 := byteF_ok (byteF_ok h).1
    have hn : ((byteF (byteF c).2).1 % 5).toNat ≤ 4 := by omega
    unfold valF
    split
    · exact G_leaf _ _ _ (byteF_ok h).1
    · split
      · exact G_leaf _ _ _ (byteF_ok h).1
      · split
        · obtain ⟨a1, a2⟩ := itemsA_G hk hg ((byteF (byteF c).2).1 % 5).toNat (byteF (byteF c).2).2 (wrap64 (l - 1)) [] hc1.1 (fun y hy => by simp at hy)
          rw [List.length_nil] at a2
          exact ⟨fun h _ => absurd rfl h, fun h => absurd (show (4 : Int) = 5 from h) (by decide), by simp [arrV], (by show (itemsA _ _ _ _ _).1.length ≤ 4; omega), ⟨(show (-4503599627370496 : Int) ≤ 0 by decide), (show (0 : Int) ≤ 4503599627370496 by decide)⟩, a1⟩
        · obtain ⟨a1, a2, a3, a4⟩ := itemsO_G hk hg ((byteF (byteF c).2).1 % 5).toNat (byteF (byteF c).2).2 (wrap64 (l - 1)) [] [] hc1.1 (fun y hy => by simp at hy) (by simp) rfl
          rw [List.length_nil] at a4
          exact ⟨fun _ h => absurd rfl h, fun _ => ⟨a3, a2⟩, (by show (itemsO _ _ _ _ _ _).1.1.length ≤ 4; omega), (by show (itemsO _ _ _ _ _ _).1.2.length ≤ 4; omega), ⟨(show (-4503599627370496 : Int) ≤ 0 by decide), (show (0 : Int) ≤ 4503599627370496 by decide)⟩, a1⟩

/-! ### as impl has it, and how deep it is -/
/-- What is shown of a value: what it becomes, and how deep it is. -/
def Pt (d : Nat) (x : S26) (y : S33) : Prop := (∀ k, 100 + 10 * d ≤ k → laws_jsIn.f k x.f0 x.f1 x.f2 x.f3 x.f4 = some (y.f0, y.f1, y.f2, y.f3, y.f4)) ∧ y.good ∧ 1 ≤ y.dep ∧ y.dep ≤ d ∧ ∀ k, 100 + 10 * d ≤ k → spec_JSDepth.f k x.f0 x.f1 x.f2 x.f3 x.f4 = some y.dep
theorem eta33 (y : S33) : (⟨y.f0, y.f1, y.f2, y.f3, y.f4⟩ : S33) = y := by cases y; rfl
theorem rd_at (xs : List S26) (i : Nat) (h : i < xs.length) : rd_T26 xs (i : Int) = xs[i] := by
  unfold rd_T26
  rw [Int.toNat_natCast, List.getD_eq_getElem?_getD, List.getElem?_eq_getElem h]
  rfl
theorem in_l0 (d : Nat) (xs : List S26) (Y : S26 → S33) (hY : ∀ x ∈ xs, Pt d x (Y x)) (hl : xs.length ≤ 4) (x0 x1 : Int) (x2 : ByteArray) (x3 : List ByteArray) (a0 a1 : Int) (a2 : ByteArray) (a3 : List ByteArray) : ∀ (m i : Nat) (acc : List S33) (k : Nat), xs.length = i + m → acc.length ≤ i → 100 + 10 * d + m + 1 ≤ k →
    laws_jsIn.l0 k (i : Int) x0 x1 x2 x3 xs a0 a1 a2 a3 acc = some (a0, a1, a2, a3, acc ++ (xs.drop i).map Y)
  | 0, i, acc, k + 1, hm, ha, hk => by
    unfold laws_jsIn.l0
    rw [if_neg (by omega), List.drop_eq_nil_of_le (by omega)]
    simp
  | m + 1, i, acc, k + 1, hm, ha, hk => by
    have hi : i < xs.length := by omega
    unfold laws_jsIn.l0
    rw [if_pos (by omega), if_pos (by omega), rd_at xs i hi, (hY xs[i] (List.getElem_mem hi)).1 k (by omega)]
    simp only [Option.bind_some]
    rw [if_pos (by omega), w64_id _ (by omega)]
    have ih := in_l0 d xs Y hY hl x0 x1 x2 x3 a0 a1 a2 a3 m (i + 1) (acc ++ [Y xs[i]]) k (by omega) (by simp; omega) (by omega)
    rw [List.drop_eq_getElem_cons hi]
    rw [List.append_assoc] at ih
    rw [show ((i : Int) + 1) = ((i + 1 : Nat) : Int) from rfl, eta33]
    exact ih
theorem dp_l0 (d : Nat) (hd : d ≤ 100) (xs : List S26) (Y : S26 → S33) (hY : ∀ x ∈ xs, Pt d x (Y x)) (hl : xs.length ≤ 4) (x0 x1 : Int) (x2 : ByteArray) (x3 : List ByteArray) : ∀ (m i : Nat) (b : Int) (k : Nat), xs.length = i + m → 0 ≤ b → b ≤ 100 → 100 + 10 * d + m + 1 ≤ k →
    spec_JSDepth.l0 k b (i : Int) x0 x1 x2 x3 xs = some (max b (S33.depL ((xs.drop i).map Y)) + 1)
  | 0, i, b, k + 1, hm, h0, h1, hk => by
    unfold spec_JSDepth.l0
    rw [if_neg (by omega), List.drop_eq_nil_of_le (by omega), w64_id _ (by omega)]
    show some (b + 1) = some (max b 0 + 1)
    rw [Int.max_eq_left h0]
  | m + 1, i, b, k + 1, hm, h0, h1, hk => by
    have hi : i < xs.length := by omega
    have hp := hY xs[i] (List.getElem_mem hi)
    have hmx : mx b (Y xs[i]).dep = max b (Y xs[i]).dep := by unfold mx; split <;> omega
    unfold spec_JSDepth.l0
    rw [if_pos (by omega), if_pos (by omega), rd_at xs i hi, hp.2.2.2.2 k (by omega)]
    simp only [Option.bind_some]
    have h3 := hp.2.2.1
    have h4 := hp.2.2.2.1
    rw [w64_id ((i : Int) + 1) (by omega), hmx]
    have ih := dp_l0 d hd xs Y hY hl x0 x1 x2 x3 m (i + 1) (max b (Y xs[i]).dep) k (by omega) (by omega) (by omega) (by omega)
    rw [List.drop_eq_getElem_cons hi]
    refine ih.trans ?_
    show some (max (max b (Y xs[i]).dep) (S33.depL ((xs.drop (i + 1)).map Y)) + 1) = some (max b (max (Y xs[i]).dep (S33.depL ((xs.drop (i + 1)).map Y))) + 1)
    congr 1
    omega
theorem goodL_all (l : List S33) (h : ∀ y ∈ l, y.good) : S33.goodL l := by
  induction l with
  | nil => trivial
  | cons x l ih => exact ⟨h x List.mem_cons_self, ih (fun y hy => h y (List.mem_cons_of_mem _ hy))⟩
theorem in_f (d : Nat) (x : S26) (xs4 : List S33) (hb : -4503599627370496 ≤ x.f1 ∧ x.f1 ≤ 4503599627370496) (h3 : x.f3.length ≤ 4)
    (h : ∀ (k : Nat) (a1 : Int), 105 + 10 * d ≤ k → laws_jsIn.l0 k 0 x.f0 x.f1 x.f2 x.f3 x.f4 x.f0 a1 x.f2 x.f3 [] = some (x.f0, a1, x.f2, x.f3, xs4)) : ∃ n : Int, ∀ k, 100 + 10 * (d + 1) ≤ k → laws_jsIn.f k x.f0 x.f1 x.f2 x.f3 x.f4 = some (x.f0, n, x.f2, x.f3, xs4) := by
  obtain ⟨r, hr⟩ := bits_ok x.f1 hb
  have hj1 : ∀ (k : Nat) (a1 : Int), 106 + 10 * d ≤ k → laws_jsIn.j1 k x.f0 x.f1 x.f2 x.f3 x.f4 x.f0 a1 x.f2 x.f3 = some (x.f0, a1, x.f2, x.f3, xs4) := by
    intro k a1 hk
    obtain ⟨k, rfl⟩ : ∃ j, k = j + 1 := ⟨k - 1, by omega⟩
    unfold laws_jsIn.j1
    exact h k a1 (by omega)
  have hj0 : ∀ (a1 : Int), ∃ n, ∀ k, 107 + 10 * d ≤ k → laws_jsIn.j0 k x.f0 x.f1 x.f2 x.f3 x.f4 x.f0 a1 x.f2 x.f3 = some (x.f0, n, x.f2, x.f3, xs4) := by
    intro a1
    by_cases h2 : x.f0 = 2
    · refine ⟨r, fun k hk => ?_⟩
      obtain ⟨k, rfl⟩ : ∃ j, k = j + 1 := ⟨k - 1, by omega⟩
      unfold laws_jsIn.j0
      rw [if_pos h2, hr k (by omega)]
      exact hj1 k r (by omega)
    · refine ⟨a1, fun k hk => ?_⟩
      obtain ⟨k, rfl⟩ : ∃ j, k = j + 1 := ⟨k - 1, by omega⟩
      unfold laws_jsIn.j0
      rw [if_neg h2]
      exact hj1 k a1 (by omega)
  by_cases h1 : x.f0 = 1
  · obtain ⟨n, hn⟩ := hj0 (IntKind.u64.wrap x.f1)
    refine ⟨n, fun k hk => ?_⟩
    obtain ⟨k, rfl⟩ : ∃ j, k = j + 1 := ⟨k - 1, by omega⟩
    unfold laws_jsIn.f
    simp only [Option.bind_some, List.length_nil, List.nil_append]
    rw [if_pos (by omega), if_pos h1]
    exact hn k (by omega)
  · obtain ⟨n, hn⟩ := hj0 0
    refine ⟨n, fun k hk => ?_⟩
    obtain ⟨k, rfl⟩ : ∃ j, k = j + 1 := ⟨k - 1, by omega⟩
    unfold laws_jsIn.f
    simp only [Option.bind_some, List.length_nil, List.nil_append]
    rw [if_pos (by omega), if_neg h1]
    exact hn k (by omega)
theorem pt_ok : ∀ (d : Nat), d ≤ 50 → ∀ x, G d x → ∃ y, Pt d x y
  | 0, _, _, h => h.elim
  | d + 1, hd, x, h => by
    obtain ⟨g1, g2, g3, g4, g5, g6⟩ := h
    have ih := fun y hy => pt_ok d (by omega) y (g6 y hy)
    obtain ⟨Y, hY⟩ : ∃ Y : S26 → S33, ∀ y ∈ x.f4, Pt d y (Y y) := by
      classical
      exact ⟨fun y => if hy : y ∈ x.f4 then (ih y hy).choose else z33, fun y hy => by
        simp only [dif_pos hy]
        exact (ih y hy).choose_spec⟩
    obtain ⟨n, hn⟩ := in_f d x (x.f4.map Y) g5 g3 (fun k a1 hk => in_l0 d x.f4 Y hY g4 x.f0 x.f1 x.f2 x.f3 x.f0 a1 x.f2 x.f3 x.f4.length 0 [] k (by omega) (by simp) (by omega))
    have hdl : S33.depL (x.f4.map Y) ≤ d := depL_le (by omega) (fun y hy => by
      obtain ⟨z, hz, rfl⟩ := List.mem_map.1 hy
      exact (hY z hz).2.2.2.1)
    have hd0 := depL_nonneg (x.f4.map Y)
    refine ⟨⟨x.f0, n, x.f2, x.f3, x.f4.map Y⟩, hn, ⟨?_, ?_, ?_, ?_⟩, ?_, ?_, ?_⟩
    · intro h4 h5
      rw [g1 h4 h5]
      rfl
    · intro h5
      rw [List.length_map]
      exact g2 h5
    · rw [List.length_map]
      exact g4
    · exact goodL_all _ (fun y hy => by
        obtain ⟨z, hz, rfl⟩ := List.mem_map.1 hy
        exact (hY z hz).2.1)
    · rw [dep_eq]
      show 1 ≤ S33.depL (x.f4.map Y) + 1
      omega
    · rw [dep_eq]
      show S33.depL (x.f4.map Y) + 1 ≤ ((d + 1 : Nat) : Int)
      omega
    · intro k hk
      obtain ⟨k, rfl⟩ : ∃ j, k = j + 1 := ⟨k - 1, by omega⟩
      unfold spec_JSDepth.f
      have h := dp_l0 d (by omega) x.f4 Y hY g4 x.f0 x.f1 x.f2 x.f3 x.f4.length 0 0 k (by omega) (by omega) (by omega) (by omega)
      refine h.trans ?_
      rw [dep_eq, List.drop_zero, Int.max_eq_right hd0]
theorem FnJSDepth : laws_FnJSDepth.Pure := by
  intro l0 hl hs hw
  have hok : okB l0 := fun x hx => by
    have h := hw x hx
    simp [Lit.wf, IntKind.min, IntKind.max, IntKind.bits, IntKind.signed] at h
    omega
  obtain ⟨y, h1, h2, h3, h4, h5⟩ := pt_ok 7 (by omega) (jsF l0) (G_val 6 (by omega) l0 40 hok)
  refine ⟨200, ?_⟩
  unfold laws_FnJSDepth.f
  split
  · rfl
  · unfold laws_jsOf.f
    rw [if_pos hok]
    simp only [Option.bind_some]
    rw [h1 200 (by omega)]
    simp only [Option.bind_some]
    unfold impl_JSDepth.f
    rw [eta33, if_pos ⟨h2, by omega⟩]
    simp only [Option.bind_some, if_true]
    rw [h5 200 (by omega)]
    simp
end Go.Proofs.Ytlhaifbmacndeaa.Pure
