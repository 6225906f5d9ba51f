/-
  The walk of the law: a point within a rectangle. Condition: words of 64 bits.
-/
import Derived.Test.YtjhgmpeoagndjaaGreatGWz
namespace Go.Proofs.YtjhgmpeoagndjaaGreat.GE
open Go.RowKit Go.Proofs.YtjhgmpeoagndjaaGreatW.PrintWords Go.Proofs.YtjhgmpeoagndjaaGreatW.PrintLast Go.Proofs.YtjhgmpeoagndjaaGreatW.PrintMore
open Go.Proofs.YtjhgmpeoagndjaaGreat.Flo
set_option linter.unusedVariables false
set_option linter.unusedSimpArgs false
set_option maxRecDepth 100000
set_option maxHeartbeats 4000000

theorem law_ok (a0 a1 p0 p1 n m : Nat) (hn : n ≤ 255) (hm : m ≤ 255) (ha0 : a0 < 18446744073709551616) (ha1 : a1 < 18446744073709551616) (hp0 : p0 < 18446744073709551616) (hp1 : p1 < 18446744073709551616) (w : World) :
    Calls Tryz.prog 3 #[pt a0 a1, .int .u8 n, .int .u8 m, pt p0 p1] w fun e w' => e = .returned (.bool true) ∧ Below w.heap.size w w' := by
  have hb0 := Below.refl (((w.alloc (po a0 a1)).alloc (po p0 p1)).alloc (.cells #[.float .f64 a0, .float .f64 a1, .float .f64 p0, .float .f64 p1] 24)).heap.size (((w.alloc (po a0 a1)).alloc (po p0 p1)).alloc (.cells #[.float .f64 a0, .float .f64 a1, .float .f64 p0, .float .f64 p1] 24))
  obtain ⟨f4, f7, f3, hB⟩ := three hb0
  have HS := Aside0.mk (geSmall_ok (some ⟨w.heap.size + 1 + 1, 0, none⟩) 2 [(a0, a1), (p0, p1)] rfl (by simp; omega) _ (two_Q f3))
  have F := Aside0.mk (And.intro f4 (And.intro f7 hB))
  clear hb0 f4 f7 f3 hB
  go_enter Tryz.func3, Tryz.ntmps3
  go_wp2_with fail
  refine (HS.out).mono ?_
  rintro e w2 ⟨r, rfl, hr, hb⟩
  have f4 := (hb.block _ (blk_lt F.out.1)).trans F.out.1
  have f7 := (hb.block _ (blk_lt F.out.2.1)).trans F.out.2.1
  have HB := Aside0.mk (below_step F.out.2.2 hb)
  clear HS F hb
  cases r
  · go_wp2_with fail
    go_ret
    exact ⟨rfl, HB.out⟩
  obtain ⟨⟨X, h1⟩, Y, h2⟩ := hr rfl (a0, a1) (by simp)
  obtain ⟨⟨PX, h3⟩, PY, h4⟩ := hr rfl (p0, p1) (by simp)
  dsimp only at h1 h2 h3 h4
  clear hr
  obtain ⟨wd, k1, e1⟩ := run_add (isF_nat n (by omega)) isF_one (by omega)
  obtain ⟨hg, k2, e2⟩ := run_add (isF_nat m (by omega)) isF_one (by omega)
  obtain ⟨r1, k3, e3⟩ := run_add h1.1 k1 (by have := h1.2; omega)
  obtain ⟨r2, k4, e4⟩ := run_add h2.1 k2 (by have := h2.2; omega)
  have HRc := Aside0.mk (rect_ok a0 a1 wd hg r1 r2 e3 e4)
  obtain ⟨q0, q1⟩ := ptc f4
  obtain ⟨q2, q3⟩ := ptc f7
  go_wp2
  rename_i K aK
  have REST : ∀ {Z : World} {i10 i11 g gA b8 : Nat} {u0 u1 u2 u3 u5 u6 u13 u14 u15 u16 u17 u18 u19 u20 u21 u22 u23 u24 u25 u26 u27 u28 u29 u30 u31 u32 u33 u34 u35 u36 u37 u38 u39 u40 u41 u42 u43 u44 u45 u46 u47 u48 u49 u50 u51 u52 u53 u54 u55 u56 u57 u58 u59 u60 u61 u62 u63 u64 u65 u66 u67 u68 u69 u70 u71 u72 u73 u74 u75 u76 u77 u78 u79 u80 u81 u82 u83 u84 u85 u86 u87 u88 u89 u90 u91 u92 u93 u94 u95 u96 u97 u98 u99 u100 u101 u102 u103 u104 u105 u106 u107 u108 u109 u110 u111 u112 u113 u114 u115 u116 u117 u118 : Value}, Z.heap[i10]? = some (boR g 1) → Z.heap[i11]? = some (boP b8 1) → Z.heap[b8]? = some (po p0 p1) → Z.heap[g]? = some (boS gA) → Z.heap[gA]? = some (boA a0 a1 r1 r2) → Below w2.heap.size w2 Z → K ⟨#[u0, u1, u2, u3, .pointer (some ⟨w.heap.size, 0, none⟩), u5, u6, .pointer (some ⟨w.heap.size + 1, 0, none⟩), .bool false, .float .f64 wd, .float .f64 hg, .pointer (some ⟨i10, 0, none⟩), .pointer (some ⟨i11, 0, none⟩), u13, u14, u15, u16, u17, u18, u19, u20, u21, u22, u23, u24, u25, u26, u27, u28, u29, u30, u31, u32, u33, u34, u35, u36, u37, u38, u39, u40, u41, u42, u43, u44, u45, u46, u47, u48, u49, u50, u51, u52, u53, u54, u55, u56, u57, u58, u59, u60, u61, u62, u63, u64, u65, u66, u67, u68, u69, u70, u71, u72, u73, u74, u75, u76, u77, u78, u79, u80, u81, u82, u83, u84, u85, u86, u87, u88, u89, u90, u91, u92, u93, u94, u95, u96, u97, u98, u99, u100, u101, u102, u103, u104, u105, u106, u107, u108, u109, u110, u111, u112, u113, u114, u115, u116, u117, u118], []⟩ Z := by
    intro Z i10 i11 g gA b8
    intro u0 u1 u2 u3 u5 u6 u13 u14 u15 u16 u17 u18 u19 u20 u21 u22 u23 u24 u25 u26 u27 u28 u29 u30 u31 u32 u33 u34 u35 u36 u37 u38 u39 u40 u41 u42 u43 u44 u45 u46 u47 u48 u49 u50 u51 u52 u53 u54 u55 u56 u57 u58 u59 u60 u61 u62 u63 u64 u65 u66 u67 u68 u69 u70 u71 u72 u73 u74 u75 u76 u77 u78 u79 u80 u81 u82 u83 u84 u85 u86 u87 u88 u89 u90 u91 u92 u93 u94 u95 u96 u97 u98 u99 u100 u101 u102 u103 u104 u105 u106 u107 u108 u109 u110 u111 u112 u113 u114 u115 u116 u117 u118
    intro f10 f11 f8 fg fA hH
    replace f4 := (hH.block _ (blk_lt f4)).trans f4
    replace f7 := (hH.block _ (blk_lt f7)).trans f7
    have HBZ := Aside0.mk (below_step HB.out hH)
    have LD : Laid Z g gA b8 a0 a1 r1 r2 p0 p1 := ⟨fg, fA, f8⟩
    clear q0 q1 q2 q3 hH HB fg fA f8 HRc e1 e2 e3 e4
    obtain ⟨q0, q1⟩ := ptc f4
    obtain ⟨q2, q3⟩ := ptc f7
    obtain ⟨u, k5, e5⟩ := run_sub h3.1 h1.1 (by have := h1.2; have := h3.2; omega)
    obtain ⟨v, k6, e6⟩ := run_sub h4.1 h2.1 (by have := h2.2; have := h4.2; omega)
    obtain ⟨rr, k7, e7⟩ := run_add isF_zero isF_2 (by decide)
    have HK := Aside0.mk (rect_ok 0 0 4611686018427387904 4611686018427387904 rr rr e7 e7)
    have HN : Nums a0 a1 r1 r2 p0 p1 X Y ((n : Int) + 1) ((m : Int) + 1) PX PY := ⟨⟨h1.w, h2.w⟩, ⟨⟨k3, by have := h1.2; omega, by have := h1.2; omega⟩, ⟨k4, by have := h2.2; omega, by have := h2.2; omega⟩⟩, h3.w, h4.w⟩
    have LD := Aside0.mk LD
    have PL := Aside0.mk (And.intro (rec_inter X Y ((n : Int) + 1) ((m : Int) + 1) PX PY (by omega) (by omega)) (And.intro (rec_in X Y ((n : Int) + 1) ((m : Int) + 1) PX PY (by omega) (by omega)) (rec_out X Y ((n : Int) + 1) ((m : Int) + 1) PX PY (by omega) (by omega))))
    have CW := Aside0.mk (fun W (h : Laid W g gA b8 a0 a1 r1 r2 p0 p1) => rW_ok HN W h)
    have CI := Aside0.mk (fun W (h : Laid W g gA b8 a0 a1 r1 r2 p0 p1) => rI_ok HN W h)
    have CJ := Aside0.mk (fun W (h : Laid W g gA b8 a0 a1 r1 r2 p0 p1) => rJ_ok HN W h)
    have CK := Aside0.mk (fun (V : World) (g gA gp : Nat) (h : Laid V g gA gp 0 0 rr rr 4607182418800017408 4607182418800017408) => known_ok k7 V h)
    have B1 := gt_b k5 isF_zero
    have B2 := lt_b k5 k1
    have B3 := gt_b k6 isF_zero
    have B4 := lt_b k6 k2
    have B5 := lt_b k5 isF_zero
    have B6 := gt_b k5 k1
    have B7 := lt_b k6 isF_zero
    have B8 := gt_b k6 k2
    clear k1 k2 k3 k4 k5 k6 k7 e7 h1 h2 h3 h4 HN ha0 ha1 hp0 hp1 hn hm
    obtain ⟨U, hU⟩ : ∃ U, U = PX - X := ⟨_, rfl⟩
    obtain ⟨T, hT⟩ : ∃ T, T = PY - Y := ⟨_, rfl⟩
    obtain ⟨M, hM⟩ : ∃ M, M = (n : Int) + 1 := ⟨_, rfl⟩
    obtain ⟨N, hN⟩ : ∃ N, N = (m : Int) + 1 := ⟨_, rfl⟩
    have hMp : 0 < M := by omega
    have hNp : 0 < N := by omega
    rw [← hU, ← hT, ← hM, ← hN] at PL
    rw [← hM, ← hN] at CW CI CJ
    rw [← hU] at B1 B2 B5 B6
    rw [← hT] at B3 B4 B7 B8
    rw [← hM] at B2 B6
    rw [← hN] at B4 B8
    clear hU hT hM hN f4 f7
    apply aK
    clear aK
    go_wp2
    refine wp_region_noPanic ?_
    refine wp_region_held_drew (S := fun W => Below Z.heap.size Z W) (by kernel_rfl) ?_ (fun hHeld => ?_)
    · exact below_drew (Below.refl _ _)
    refine take_ (oi := ?oi160) (i := 0) (N := some 39) (v := ?v160) ?hi160 (by kernel_rfl) (by kernel_rfl) (by kernel_rfl) ?hQ160 ?hN160 (Or.inl ⟨?hw160, ?hy160⟩) hHeld ?rest160
    case hi160 => simp only [List.getElem?_toArray, List.getElem?_cons_zero, List.getElem?_cons_succ]; rfl
    case hQ160 => exact fun _ _ _ h => h
    case hN160 => rfl
    case hw160 => rfl
    case hy160 => intro W hSw; have z0 := pw_cell_below (show Below _ _ W from hSw) q0; have z1 := pw_cell_below (show Below _ _ W from hSw) q1; have z2 := pw_cell_below (show Below _ _ W from hSw) q2; have z3 := pw_cell_below (show Below _ _ W from hSw) q3; go_simp; (try with_reducible rfl)
    simp only [Act.put, List.setIfInBounds_toArray, List.set_cons_zero, List.set_cons_succ]
    refine take_ (oi := ?oi161) (i := 1) (N := some 40) (v := ?v161) ?hi161 (by kernel_rfl) (by kernel_rfl) (by kernel_rfl) ?hQ161 ?hN161 (Or.inl ⟨?hw161, ?hy161⟩) hHeld ?rest161
    case hi161 => simp only [List.getElem?_toArray, List.getElem?_cons_zero, List.getElem?_cons_succ]; rfl
    case hQ161 => exact fun _ _ _ h => h
    case hN161 => rfl
    case hw161 => rfl
    case hy161 => intro W hSw; have z0 := pw_cell_below (show Below _ _ W from hSw) q0; have z1 := pw_cell_below (show Below _ _ W from hSw) q1; have z2 := pw_cell_below (show Below _ _ W from hSw) q2; have z3 := pw_cell_below (show Below _ _ W from hSw) q3; go_simp; (try with_reducible rfl)
    simp only [Act.put, List.setIfInBounds_toArray, List.set_cons_zero, List.set_cons_succ]
    refine take_ (oi := ?oi162) (i := 2) (N := some 41) (v := ?v162) ?hi162 (by kernel_rfl) (by kernel_rfl) (by kernel_rfl) ?hQ162 ?hN162 (Or.inl ⟨?hw162, ?hy162⟩) hHeld ?rest162
    case hi162 => simp only [List.getElem?_toArray, List.getElem?_cons_zero, List.getElem?_cons_succ]; rfl
    case hQ162 => exact fun _ _ _ h => h
    case hN162 => rfl
    case hw162 => rfl
    case hy162 => intro W hSw; have z0 := pw_cell_below (show Below _ _ W from hSw) q0; have z1 := pw_cell_below (show Below _ _ W from hSw) q1; have z2 := pw_cell_below (show Below _ _ W from hSw) q2; have z3 := pw_cell_below (show Below _ _ W from hSw) q3; go_simp; (try with_reducible rfl)
    simp only [Act.put, List.setIfInBounds_toArray, List.set_cons_zero, List.set_cons_succ]
    refine take_ (oi := ?oi163) (i := 3) (N := some 42) (v := ?v163) ?hi163 (by kernel_rfl) (by kernel_rfl) (by kernel_rfl) ?hQ163 ?hN163 (Or.inl ⟨?hw163, ?hy163⟩) hHeld ?rest163
    case hi163 => simp only [List.getElem?_toArray, List.getElem?_cons_zero, List.getElem?_cons_succ]; rfl
    case hQ163 => exact fun _ _ _ h => h
    case hN163 => rfl
    case hw163 => rfl
    case hy163 => intro W hSw; have z0 := pw_cell_below (show Below _ _ W from hSw) q0; have z1 := pw_cell_below (show Below _ _ W from hSw) q1; have z2 := pw_cell_below (show Below _ _ W from hSw) q2; have z3 := pw_cell_below (show Below _ _ W from hSw) q3; go_simp; (try with_reducible rfl)
    simp only [Act.put, List.setIfInBounds_toArray, List.set_cons_zero, List.set_cons_succ]
    refine take_ (oi := ?oi164) (i := 4) (N := some 43) (v := ?v164) ?hi164 (by kernel_rfl) (by kernel_rfl) (by kernel_rfl) ?hQ164 ?hN164 (Or.inl ⟨?hw164, ?hy164⟩) hHeld ?rest164
    case hi164 => simp only [List.getElem?_toArray, List.getElem?_cons_zero, List.getElem?_cons_succ]; rfl
    case hQ164 => exact fun _ _ _ h => h
    case hN164 => rfl
    case hw164 => rfl
    case hy164 => intro W hSw; have z0 := pw_cell_below (show Below _ _ W from hSw) q0; have z1 := pw_cell_below (show Below _ _ W from hSw) q1; have z2 := pw_cell_below (show Below _ _ W from hSw) q2; have z3 := pw_cell_below (show Below _ _ W from hSw) q3; go_simp; (try with_reducible rfl)
    simp only [Act.put, List.setIfInBounds_toArray, List.set_cons_zero, List.set_cons_succ]
    refine take_ (oi := ?oi165) (i := 5) (N := some 44) (v := ?v165) ?hi165 (by kernel_rfl) (by kernel_rfl) (by kernel_rfl) ?hQ165 ?hN165 (Or.inl ⟨?hw165, ?hy165⟩) hHeld ?rest165
    case hi165 => simp only [List.getElem?_toArray, List.getElem?_cons_zero, List.getElem?_cons_succ]; rfl
    case hQ165 => exact fun _ _ _ h => h
    case hN165 => rfl
    case hw165 => rfl
    case hy165 => intro W hSw; have z0 := pw_cell_below (show Below _ _ W from hSw) q0; have z1 := pw_cell_below (show Below _ _ W from hSw) q1; have z2 := pw_cell_below (show Below _ _ W from hSw) q2; have z3 := pw_cell_below (show Below _ _ W from hSw) q3; go_simp; (try with_reducible rfl)
    simp only [Act.put, List.setIfInBounds_toArray, List.set_cons_zero, List.set_cons_succ]
    refine take_ (oi := ?oi166) (i := 6) (N := some 45) (v := ?v166) ?hi166 (by kernel_rfl) (by kernel_rfl) (by kernel_rfl) ?hQ166 ?hN166 (Or.inl ⟨?hw166, ?hy166⟩) hHeld ?rest166
    case hi166 => simp only [List.getElem?_toArray, List.getElem?_cons_zero, List.getElem?_cons_succ]; rfl
    case hQ166 => exact fun _ _ _ h => h
    case hN166 => rfl
    case hw166 => rfl
    case hy166 => intro W hSw; have z0 := pw_cell_below (show Below _ _ W from hSw) q0; have z1 := pw_cell_below (show Below _ _ W from hSw) q1; have z2 := pw_cell_below (show Below _ _ W from hSw) q2; have z3 := pw_cell_below (show Below _ _ W from hSw) q3; go_simp; (try with_reducible rfl)
    simp only [Act.put, List.setIfInBounds_toArray, List.set_cons_zero, List.set_cons_succ]
    refine take_ (oi := ?oi167) (i := 7) (N := some 46) (v := ?v167) ?hi167 (by kernel_rfl) (by kernel_rfl) (by kernel_rfl) ?hQ167 ?hN167 (Or.inl ⟨?hw167, ?hy167⟩) hHeld ?rest167
    case hi167 => simp only [List.getElem?_toArray, List.getElem?_cons_zero, List.getElem?_cons_succ]; rfl
    case hQ167 => exact fun _ _ _ h => h
    case hN167 => rfl
    case hw167 => rfl
    case hy167 => intro W hSw; have z0 := pw_cell_below (show Below _ _ W from hSw) q0; have z1 := pw_cell_below (show Below _ _ W from hSw) q1; have z2 := pw_cell_below (show Below _ _ W from hSw) q2; have z3 := pw_cell_below (show Below _ _ W from hSw) q3; go_simp; (try with_reducible rfl)
    simp only [Act.put, List.setIfInBounds_toArray, List.set_cons_zero, List.set_cons_succ]
    refine take_ (oi := ?oi168) (i := 8) (N := some 47) (v := ?v168) ?hi168 (by kernel_rfl) (by kernel_rfl) (by kernel_rfl) ?hQ168 ?hN168 (Or.inl ⟨?hw168, ?hy168⟩) hHeld ?rest168
    case hi168 => simp only [List.getElem?_toArray, List.getElem?_cons_zero, List.getElem?_cons_succ]; rfl
    case hQ168 => exact fun _ _ _ h => h
    case hN168 => rfl
    case hw168 => rfl
    case hy168 => intro W hSw; have z0 := pw_cell_below (show Below _ _ W from hSw) q0; have z1 := pw_cell_below (show Below _ _ W from hSw) q1; have z2 := pw_cell_below (show Below _ _ W from hSw) q2; have z3 := pw_cell_below (show Below _ _ W from hSw) q3; go_simp; (try with_reducible rfl)
    simp only [Act.put, List.setIfInBounds_toArray, List.set_cons_zero, List.set_cons_succ]
    refine take_ (oi := ?oi169) (i := 9) (N := some 48) (v := ?v169) ?hi169 (by kernel_rfl) (by kernel_rfl) (by kernel_rfl) ?hQ169 ?hN169 (Or.inl ⟨?hw169, ?hy169⟩) hHeld ?rest169
    case hi169 => simp only [List.getElem?_toArray, List.getElem?_cons_zero, List.getElem?_cons_succ]; rfl
    case hQ169 => exact fun _ _ _ h => h
    case hN169 => rfl
    case hw169 => rfl
    case hy169 => intro W hSw; have z0 := pw_cell_below (show Below _ _ W from hSw) q0; have z1 := pw_cell_below (show Below _ _ W from hSw) q1; have z2 := pw_cell_below (show Below _ _ W from hSw) q2; have z3 := pw_cell_below (show Below _ _ W from hSw) q3; go_simp; (try with_reducible rfl)
    simp only [Act.put, List.setIfInBounds_toArray, List.set_cons_zero, List.set_cons_succ]
    refine take_ (oi := ?oi170) (i := 10) (N := some 13) (v := ?v170) ?hi170 (by kernel_rfl) (by kernel_rfl) (by kernel_rfl) ?hQ170 ?hN170 (Or.inl ⟨?hw170, ?hy170⟩) hHeld ?rest170
    case hi170 => simp only [List.getElem?_toArray, List.getElem?_cons_zero, List.getElem?_cons_succ]; rfl
    case hQ170 => exact fun _ _ _ h => h
    case hN170 => rfl
    case hw170 => rfl
    case hy170 => intro W hSw; have z0 := pw_cell_below (show Below _ _ W from hSw) q0; have z1 := pw_cell_below (show Below _ _ W from hSw) q1; have z2 := pw_cell_below (show Below _ _ W from hSw) q2; have z3 := pw_cell_below (show Below _ _ W from hSw) q3; go_simp; (try with_reducible rfl)
    simp only [Act.put, List.setIfInBounds_toArray, List.set_cons_zero, List.set_cons_succ]
    refine take_ (oi := ?oi171) (i := 11) (N := some 14) (v := ?v171) ?hi171 (by kernel_rfl) (by kernel_rfl) (by kernel_rfl) ?hQ171 ?hN171 (Or.inl ⟨?hw171, ?hy171⟩) hHeld ?rest171
    case hi171 => simp only [List.getElem?_toArray, List.getElem?_cons_zero, List.getElem?_cons_succ]; rfl
    case hQ171 => exact fun _ _ _ h => h
    case hN171 => rfl
    case hw171 => rfl
    case hy171 => intro W hSw; have z0 := pw_cell_below (show Below _ _ W from hSw) q0; have z1 := pw_cell_below (show Below _ _ W from hSw) q1; have z2 := pw_cell_below (show Below _ _ W from hSw) q2; have z3 := pw_cell_below (show Below _ _ W from hSw) q3; go_simp; (try with_reducible rfl)
    simp only [Act.put, List.setIfInBounds_toArray, List.set_cons_zero, List.set_cons_succ]
    refine wpAnyH_done (by kernel_rfl) ?_ _
    refine NoPanic.normal ?_
    have LD := Aside0.mk (LD.out.below hHeld)
    have HB := Aside0.mk (below_step HBZ.out hHeld)
    replace f10 := (hHeld.block _ (blk_lt f10)).trans f10
    replace f11 := (hHeld.block _ (blk_lt f11)).trans f11
    clear q0 q1 q2 q3 HBZ e5 e6
    generalize Z.drew = Z5 at *
    clear hHeld
    by_cases c1 : 0 < U
    · skip
      by_cases c2 : U < M
      · skip
        by_cases c3 : 0 < T
        · skip
          by_cases c4 : T < N
          · skip
            have G1 := B1.trans (decide_eq_true (p := 0 < U) (by omega))
            have G2 := B2.trans (decide_eq_true (p := U < M) (by omega))
            have G3 := B3.trans (decide_eq_true (p := 0 < T) (by omega))
            have G4 := B4.trans (decide_eq_true (p := T < N) (by omega))
            have G5 := B5.trans (decide_eq_false (p := U < 0) (by omega))
            have G6 := B6.trans (decide_eq_false (p := M < U) (by omega))
            have G7 := B7.trans (decide_eq_false (p := T < 0) (by omega))
            have G8 := B8.trans (decide_eq_false (p := N < T) (by omega))
            have HI : insR U T M N = true := by unfold insR; simp only [Bool.and_eq_true, decide_eq_true_eq]; omega
            have HO : outR U T M N = false := by unfold outR; rw [Bool.eq_false_iff]; intro h; simp only [Bool.or_eq_true, decide_eq_true_eq] at h; omega
            have QI := PL.out.1
            rw [HO] at QI
            have QW := PL.out.2.1 HI
            rw [QW] at CW
            rw [QI] at CI CJ
            clear B1 B2 B3 B4 B5 B6 B7 B8 HI HO QI PL hMp hNp QW c1 c2 c3 c4
            have fp := heap_alloc_new Z5 (po 4607182418800017408 4607182418800017408)
            have hp := below_alloc (Below.refl Z5.heap.size Z5) (po 4607182418800017408 4607182418800017408)
            have HP := Aside0.mk (And.intro fp hp)
            have F0 := Aside0.mk (And.intro f10 f11)
            clear fp hp f10 f11
            go_wp2_with fail
            refine (HK.out _).mono ?_
            rintro e v1 ⟨gk, gkA, rfl, fk, fkA, hb⟩
            have fp := (hb.block _ (blk_lt HP.out.1)).trans HP.out.1
            have CK1 := Aside0.mk (CK.out v1 gk gkA Z5.heap.size ⟨fk, fkA, fp⟩)
            have S1 := Aside0.mk (below_step HP.out.2 hb)
            clear fk fkA fp hb HP CK HK
            go_wp2_with fail
            refine (CK1.out).mono ?_
            rintro e v2 ⟨rfl, hb⟩
            have S2 := Aside0.mk (below_step S1.out hb)
            clear hb S1 CK1
            have f10 := (S2.out.block _ (blk_lt F0.out.1)).trans F0.out.1
            have f11 := (S2.out.block _ (blk_lt F0.out.2)).trans F0.out.2
            have CI1 := Aside0.mk (CI.out v2 (LD.out.below S2.out))
            obtain ⟨x0, x1, x2, x3, x4, x5⟩ := cells6 f10
            obtain ⟨y0, y1, y2, y3, y4, y5⟩ := cells6 f11
            clear f10 f11 CI
            go_wp2_with fail
            refine (CI1.out).mono ?_
            rintro e v3 ⟨rfl, hb⟩
            have S3 := Aside0.mk (below_step S2.out hb)
            clear hb S2 CI1 x0 x1 x2 x3 x4 x5 y0 y1 y2 y3 y4 y5
            have f10 := (S3.out.block _ (blk_lt F0.out.1)).trans F0.out.1
            have f11 := (S3.out.block _ (blk_lt F0.out.2)).trans F0.out.2
            have CJ1 := Aside0.mk (CJ.out v3 (LD.out.below S3.out))
            obtain ⟨x0, x1, x2, x3, x4, x5⟩ := cells6 f10
            obtain ⟨y0, y1, y2, y3, y4, y5⟩ := cells6 f11
            clear f10 f11 CJ
            go_wp2_with fail
            refine (CJ1.out).mono ?_
            rintro e v4 ⟨rfl, hb⟩
            have S4 := Aside0.mk (below_step S3.out hb)
            clear hb S3 CJ1 x0 x1 x2 x3 x4 x5 y0 y1 y2 y3 y4 y5
            have f10 := (S4.out.block _ (blk_lt F0.out.1)).trans F0.out.1
            have f11 := (S4.out.block _ (blk_lt F0.out.2)).trans F0.out.2
            have CW1 := Aside0.mk (CW.out v4 (LD.out.below S4.out))
            obtain ⟨x0, x1, x2, x3, x4, x5⟩ := cells6 f10
            obtain ⟨y0, y1, y2, y3, y4, y5⟩ := cells6 f11
            clear f10 f11 CW F0
            go_wp2_with fail
            refine (CW1.out).mono ?_
            rintro e v5 ⟨rfl, hb⟩
            have S5 := Aside0.mk (below_step S4.out hb)
            clear hb S4 CW1 x0 x1 x2 x3 x4 x5 y0 y1 y2 y3 y4 y5
            go_wp2_with fail
            go_ret
            exact ⟨rfl, below_step HB.out S5.out⟩
          · skip
            by_cases c8 : N < T
            · skip
              have G1 := B1.trans (decide_eq_true (p := 0 < U) (by omega))
              have G2 := B2.trans (decide_eq_true (p := U < M) (by omega))
              have G3 := B3.trans (decide_eq_true (p := 0 < T) (by omega))
              have G4 := B4.trans (decide_eq_false (p := T < N) (by omega))
              have G5 := B5.trans (decide_eq_false (p := U < 0) (by omega))
              have G6 := B6.trans (decide_eq_false (p := M < U) (by omega))
              have G7 := B7.trans (decide_eq_false (p := T < 0) (by omega))
              have G8 := B8.trans (decide_eq_true (p := N < T) (by omega))
              have HI : insR U T M N = false := by unfold insR; rw [Bool.eq_false_iff]; intro h; simp only [Bool.and_eq_true, decide_eq_true_eq] at h; omega
              have HO : outR U T M N = true := by unfold outR; simp only [Bool.or_eq_true, decide_eq_true_eq]; omega
              have QI := PL.out.1
              rw [HO] at QI
              have QW := PL.out.2.2 HO
              rw [QW] at CW
              rw [QI] at CI CJ
              clear B1 B2 B3 B4 B5 B6 B7 B8 HI HO QI PL hMp hNp QW c1 c2 c3 c4 c8
              have fp := heap_alloc_new Z5 (po 4607182418800017408 4607182418800017408)
              have hp := below_alloc (Below.refl Z5.heap.size Z5) (po 4607182418800017408 4607182418800017408)
              have HP := Aside0.mk (And.intro fp hp)
              have F0 := Aside0.mk (And.intro f10 f11)
              clear fp hp f10 f11
              go_wp2_with fail
              refine (HK.out _).mono ?_
              rintro e v1 ⟨gk, gkA, rfl, fk, fkA, hb⟩
              have fp := (hb.block _ (blk_lt HP.out.1)).trans HP.out.1
              have CK1 := Aside0.mk (CK.out v1 gk gkA Z5.heap.size ⟨fk, fkA, fp⟩)
              have S1 := Aside0.mk (below_step HP.out.2 hb)
              clear fk fkA fp hb HP CK HK
              go_wp2_with fail
              refine (CK1.out).mono ?_
              rintro e v2 ⟨rfl, hb⟩
              have S2 := Aside0.mk (below_step S1.out hb)
              clear hb S1 CK1
              have f10 := (S2.out.block _ (blk_lt F0.out.1)).trans F0.out.1
              have f11 := (S2.out.block _ (blk_lt F0.out.2)).trans F0.out.2
              have CI1 := Aside0.mk (CI.out v2 (LD.out.below S2.out))
              obtain ⟨x0, x1, x2, x3, x4, x5⟩ := cells6 f10
              obtain ⟨y0, y1, y2, y3, y4, y5⟩ := cells6 f11
              clear f10 f11 CI
              go_wp2_with fail
              refine (CI1.out).mono ?_
              rintro e v3 ⟨rfl, hb⟩
              have S3 := Aside0.mk (below_step S2.out hb)
              clear hb S2 CI1 x0 x1 x2 x3 x4 x5 y0 y1 y2 y3 y4 y5
              have f10 := (S3.out.block _ (blk_lt F0.out.1)).trans F0.out.1
              have f11 := (S3.out.block _ (blk_lt F0.out.2)).trans F0.out.2
              have CJ1 := Aside0.mk (CJ.out v3 (LD.out.below S3.out))
              obtain ⟨x0, x1, x2, x3, x4, x5⟩ := cells6 f10
              obtain ⟨y0, y1, y2, y3, y4, y5⟩ := cells6 f11
              clear f10 f11 CJ
              go_wp2_with fail
              refine (CJ1.out).mono ?_
              rintro e v4 ⟨rfl, hb⟩
              have S4 := Aside0.mk (below_step S3.out hb)
              clear hb S3 CJ1 x0 x1 x2 x3 x4 x5 y0 y1 y2 y3 y4 y5
              have f10 := (S4.out.block _ (blk_lt F0.out.1)).trans F0.out.1
              have f11 := (S4.out.block _ (blk_lt F0.out.2)).trans F0.out.2
              have CW1 := Aside0.mk (CW.out v4 (LD.out.below S4.out))
              obtain ⟨x0, x1, x2, x3, x4, x5⟩ := cells6 f10
              obtain ⟨y0, y1, y2, y3, y4, y5⟩ := cells6 f11
              clear f10 f11 CW F0
              go_wp2_with fail
              refine (CW1.out).mono ?_
              rintro e v5 ⟨rfl, hb⟩
              have S5 := Aside0.mk (below_step S4.out hb)
              clear hb S4 CW1 x0 x1 x2 x3 x4 x5 y0 y1 y2 y3 y4 y5
              go_wp2_with fail
              go_ret
              exact ⟨rfl, below_step HB.out S5.out⟩
            · skip
              have G1 := B1.trans (decide_eq_true (p := 0 < U) (by omega))
              have G2 := B2.trans (decide_eq_true (p := U < M) (by omega))
              have G3 := B3.trans (decide_eq_true (p := 0 < T) (by omega))
              have G4 := B4.trans (decide_eq_false (p := T < N) (by omega))
              have G5 := B5.trans (decide_eq_false (p := U < 0) (by omega))
              have G6 := B6.trans (decide_eq_false (p := M < U) (by omega))
              have G7 := B7.trans (decide_eq_false (p := T < 0) (by omega))
              have G8 := B8.trans (decide_eq_false (p := N < T) (by omega))
              have HI : insR U T M N = false := by unfold insR; rw [Bool.eq_false_iff]; intro h; simp only [Bool.and_eq_true, decide_eq_true_eq] at h; omega
              have HO : outR U T M N = false := by unfold outR; rw [Bool.eq_false_iff]; intro h; simp only [Bool.or_eq_true, decide_eq_true_eq] at h; omega
              have QI := PL.out.1
              rw [HO] at QI
              rw [QI] at CI CJ
              clear B1 B2 B3 B4 B5 B6 B7 B8 HI HO QI PL hMp hNp c1 c2 c3 c4 c8
              have fp := heap_alloc_new Z5 (po 4607182418800017408 4607182418800017408)
              have hp := below_alloc (Below.refl Z5.heap.size Z5) (po 4607182418800017408 4607182418800017408)
              have HP := Aside0.mk (And.intro fp hp)
              have F0 := Aside0.mk (And.intro f10 f11)
              clear fp hp f10 f11
              go_wp2_with fail
              refine (HK.out _).mono ?_
              rintro e v1 ⟨gk, gkA, rfl, fk, fkA, hb⟩
              have fp := (hb.block _ (blk_lt HP.out.1)).trans HP.out.1
              have CK1 := Aside0.mk (CK.out v1 gk gkA Z5.heap.size ⟨fk, fkA, fp⟩)
              have S1 := Aside0.mk (below_step HP.out.2 hb)
              clear fk fkA fp hb HP CK HK
              go_wp2_with fail
              refine (CK1.out).mono ?_
              rintro e v2 ⟨rfl, hb⟩
              have S2 := Aside0.mk (below_step S1.out hb)
              clear hb S1 CK1
              have f10 := (S2.out.block _ (blk_lt F0.out.1)).trans F0.out.1
              have f11 := (S2.out.block _ (blk_lt F0.out.2)).trans F0.out.2
              have CI1 := Aside0.mk (CI.out v2 (LD.out.below S2.out))
              obtain ⟨x0, x1, x2, x3, x4, x5⟩ := cells6 f10
              obtain ⟨y0, y1, y2, y3, y4, y5⟩ := cells6 f11
              clear f10 f11 CI
              go_wp2_with fail
              refine (CI1.out).mono ?_
              rintro e v3 ⟨rfl, hb⟩
              have S3 := Aside0.mk (below_step S2.out hb)
              clear hb S2 CI1 x0 x1 x2 x3 x4 x5 y0 y1 y2 y3 y4 y5
              have f10 := (S3.out.block _ (blk_lt F0.out.1)).trans F0.out.1
              have f11 := (S3.out.block _ (blk_lt F0.out.2)).trans F0.out.2
              have CJ1 := Aside0.mk (CJ.out v3 (LD.out.below S3.out))
              obtain ⟨x0, x1, x2, x3, x4, x5⟩ := cells6 f10
              obtain ⟨y0, y1, y2, y3, y4, y5⟩ := cells6 f11
              clear f10 f11 CJ
              go_wp2_with fail
              refine (CJ1.out).mono ?_
              rintro e v4 ⟨rfl, hb⟩
              have S4 := Aside0.mk (below_step S3.out hb)
              clear hb S3 CJ1 x0 x1 x2 x3 x4 x5 y0 y1 y2 y3 y4 y5
              have f10 := (S4.out.block _ (blk_lt F0.out.1)).trans F0.out.1
              have f11 := (S4.out.block _ (blk_lt F0.out.2)).trans F0.out.2
              have CW1 := Aside0.mk (CW.out v4 (LD.out.below S4.out))
              obtain ⟨x0, x1, x2, x3, x4, x5⟩ := cells6 f10
              obtain ⟨y0, y1, y2, y3, y4, y5⟩ := cells6 f11
              clear f10 f11 CW F0
              go_wp2_with fail
              go_ret
              exact ⟨rfl, below_step HB.out S4.out⟩
        · skip
          by_cases c7 : T < 0
          · skip
            have G1 := B1.trans (decide_eq_true (p := 0 < U) (by omega))
            have G2 := B2.trans (decide_eq_true (p := U < M) (by omega))
            have G3 := B3.trans (decide_eq_false (p := 0 < T) (by omega))
            have G5 := B5.trans (decide_eq_false (p := U < 0) (by omega))
            have G6 := B6.trans (decide_eq_false (p := M < U) (by omega))
            have G7 := B7.trans (decide_eq_true (p := T < 0) (by omega))
            have HI : insR U T M N = false := by unfold insR; rw [Bool.eq_false_iff]; intro h; simp only [Bool.and_eq_true, decide_eq_true_eq] at h; omega
            have HO : outR U T M N = true := by unfold outR; simp only [Bool.or_eq_true, decide_eq_true_eq]; omega
            have QI := PL.out.1
            rw [HO] at QI
            have QW := PL.out.2.2 HO
            rw [QW] at CW
            rw [QI] at CI CJ
            clear B1 B2 B3 B4 B5 B6 B7 B8 HI HO QI PL hMp hNp QW c1 c2 c3 c7
            have fp := heap_alloc_new Z5 (po 4607182418800017408 4607182418800017408)
            have hp := below_alloc (Below.refl Z5.heap.size Z5) (po 4607182418800017408 4607182418800017408)
            have HP := Aside0.mk (And.intro fp hp)
            have F0 := Aside0.mk (And.intro f10 f11)
            clear fp hp f10 f11
            go_wp2_with fail
            refine (HK.out _).mono ?_
            rintro e v1 ⟨gk, gkA, rfl, fk, fkA, hb⟩
            have fp := (hb.block _ (blk_lt HP.out.1)).trans HP.out.1
            have CK1 := Aside0.mk (CK.out v1 gk gkA Z5.heap.size ⟨fk, fkA, fp⟩)
            have S1 := Aside0.mk (below_step HP.out.2 hb)
            clear fk fkA fp hb HP CK HK
            go_wp2_with fail
            refine (CK1.out).mono ?_
            rintro e v2 ⟨rfl, hb⟩
            have S2 := Aside0.mk (below_step S1.out hb)
            clear hb S1 CK1
            have f10 := (S2.out.block _ (blk_lt F0.out.1)).trans F0.out.1
            have f11 := (S2.out.block _ (blk_lt F0.out.2)).trans F0.out.2
            have CI1 := Aside0.mk (CI.out v2 (LD.out.below S2.out))
            obtain ⟨x0, x1, x2, x3, x4, x5⟩ := cells6 f10
            obtain ⟨y0, y1, y2, y3, y4, y5⟩ := cells6 f11
            clear f10 f11 CI
            go_wp2_with fail
            refine (CI1.out).mono ?_
            rintro e v3 ⟨rfl, hb⟩
            have S3 := Aside0.mk (below_step S2.out hb)
            clear hb S2 CI1 x0 x1 x2 x3 x4 x5 y0 y1 y2 y3 y4 y5
            have f10 := (S3.out.block _ (blk_lt F0.out.1)).trans F0.out.1
            have f11 := (S3.out.block _ (blk_lt F0.out.2)).trans F0.out.2
            have CJ1 := Aside0.mk (CJ.out v3 (LD.out.below S3.out))
            obtain ⟨x0, x1, x2, x3, x4, x5⟩ := cells6 f10
            obtain ⟨y0, y1, y2, y3, y4, y5⟩ := cells6 f11
            clear f10 f11 CJ
            go_wp2_with fail
            refine (CJ1.out).mono ?_
            rintro e v4 ⟨rfl, hb⟩
            have S4 := Aside0.mk (below_step S3.out hb)
            clear hb S3 CJ1 x0 x1 x2 x3 x4 x5 y0 y1 y2 y3 y4 y5
            have f10 := (S4.out.block _ (blk_lt F0.out.1)).trans F0.out.1
            have f11 := (S4.out.block _ (blk_lt F0.out.2)).trans F0.out.2
            have CW1 := Aside0.mk (CW.out v4 (LD.out.below S4.out))
            obtain ⟨x0, x1, x2, x3, x4, x5⟩ := cells6 f10
            obtain ⟨y0, y1, y2, y3, y4, y5⟩ := cells6 f11
            clear f10 f11 CW F0
            go_wp2_with fail
            refine (CW1.out).mono ?_
            rintro e v5 ⟨rfl, hb⟩
            have S5 := Aside0.mk (below_step S4.out hb)
            clear hb S4 CW1 x0 x1 x2 x3 x4 x5 y0 y1 y2 y3 y4 y5
            go_wp2_with fail
            go_ret
            exact ⟨rfl, below_step HB.out S5.out⟩
          · skip
            have G1 := B1.trans (decide_eq_true (p := 0 < U) (by omega))
            have G2 := B2.trans (decide_eq_true (p := U < M) (by omega))
            have G3 := B3.trans (decide_eq_false (p := 0 < T) (by omega))
            have G5 := B5.trans (decide_eq_false (p := U < 0) (by omega))
            have G6 := B6.trans (decide_eq_false (p := M < U) (by omega))
            have G7 := B7.trans (decide_eq_false (p := T < 0) (by omega))
            have G8 := B8.trans (decide_eq_false (p := N < T) (by omega))
            have HI : insR U T M N = false := by unfold insR; rw [Bool.eq_false_iff]; intro h; simp only [Bool.and_eq_true, decide_eq_true_eq] at h; omega
            have HO : outR U T M N = false := by unfold outR; rw [Bool.eq_false_iff]; intro h; simp only [Bool.or_eq_true, decide_eq_true_eq] at h; omega
            have QI := PL.out.1
            rw [HO] at QI
            rw [QI] at CI CJ
            clear B1 B2 B3 B4 B5 B6 B7 B8 HI HO QI PL hMp hNp c1 c2 c3 c7
            have fp := heap_alloc_new Z5 (po 4607182418800017408 4607182418800017408)
            have hp := below_alloc (Below.refl Z5.heap.size Z5) (po 4607182418800017408 4607182418800017408)
            have HP := Aside0.mk (And.intro fp hp)
            have F0 := Aside0.mk (And.intro f10 f11)
            clear fp hp f10 f11
            go_wp2_with fail
            refine (HK.out _).mono ?_
            rintro e v1 ⟨gk, gkA, rfl, fk, fkA, hb⟩
            have fp := (hb.block _ (blk_lt HP.out.1)).trans HP.out.1
            have CK1 := Aside0.mk (CK.out v1 gk gkA Z5.heap.size ⟨fk, fkA, fp⟩)
            have S1 := Aside0.mk (below_step HP.out.2 hb)
            clear fk fkA fp hb HP CK HK
            go_wp2_with fail
            refine (CK1.out).mono ?_
            rintro e v2 ⟨rfl, hb⟩
            have S2 := Aside0.mk (below_step S1.out hb)
            clear hb S1 CK1
            have f10 := (S2.out.block _ (blk_lt F0.out.1)).trans F0.out.1
            have f11 := (S2.out.block _ (blk_lt F0.out.2)).trans F0.out.2
            have CI1 := Aside0.mk (CI.out v2 (LD.out.below S2.out))
            obtain ⟨x0, x1, x2, x3, x4, x5⟩ := cells6 f10
            obtain ⟨y0, y1, y2, y3, y4, y5⟩ := cells6 f11
            clear f10 f11 CI
            go_wp2_with fail
            refine (CI1.out).mono ?_
            rintro e v3 ⟨rfl, hb⟩
            have S3 := Aside0.mk (below_step S2.out hb)
            clear hb S2 CI1 x0 x1 x2 x3 x4 x5 y0 y1 y2 y3 y4 y5
            have f10 := (S3.out.block _ (blk_lt F0.out.1)).trans F0.out.1
            have f11 := (S3.out.block _ (blk_lt F0.out.2)).trans F0.out.2
            have CJ1 := Aside0.mk (CJ.out v3 (LD.out.below S3.out))
            obtain ⟨x0, x1, x2, x3, x4, x5⟩ := cells6 f10
            obtain ⟨y0, y1, y2, y3, y4, y5⟩ := cells6 f11
            clear f10 f11 CJ
            go_wp2_with fail
            refine (CJ1.out).mono ?_
            rintro e v4 ⟨rfl, hb⟩
            have S4 := Aside0.mk (below_step S3.out hb)
            clear hb S3 CJ1 x0 x1 x2 x3 x4 x5 y0 y1 y2 y3 y4 y5
            have f10 := (S4.out.block _ (blk_lt F0.out.1)).trans F0.out.1
            have f11 := (S4.out.block _ (blk_lt F0.out.2)).trans F0.out.2
            have CW1 := Aside0.mk (CW.out v4 (LD.out.below S4.out))
            obtain ⟨x0, x1, x2, x3, x4, x5⟩ := cells6 f10
            obtain ⟨y0, y1, y2, y3, y4, y5⟩ := cells6 f11
            clear f10 f11 CW F0
            go_wp2_with fail
            go_ret
            exact ⟨rfl, below_step HB.out S4.out⟩
      · skip
        by_cases c6 : M < U
        · skip
          have G1 := B1.trans (decide_eq_true (p := 0 < U) (by omega))
          have G2 := B2.trans (decide_eq_false (p := U < M) (by omega))
          have G5 := B5.trans (decide_eq_false (p := U < 0) (by omega))
          have G6 := B6.trans (decide_eq_true (p := M < U) (by omega))
          have HI : insR U T M N = false := by unfold insR; rw [Bool.eq_false_iff]; intro h; simp only [Bool.and_eq_true, decide_eq_true_eq] at h; omega
          have HO : outR U T M N = true := by unfold outR; simp only [Bool.or_eq_true, decide_eq_true_eq]; omega
          have QI := PL.out.1
          rw [HO] at QI
          have QW := PL.out.2.2 HO
          rw [QW] at CW
          rw [QI] at CI CJ
          clear B1 B2 B3 B4 B5 B6 B7 B8 HI HO QI PL hMp hNp QW c1 c2 c6
          have fp := heap_alloc_new Z5 (po 4607182418800017408 4607182418800017408)
          have hp := below_alloc (Below.refl Z5.heap.size Z5) (po 4607182418800017408 4607182418800017408)
          have HP := Aside0.mk (And.intro fp hp)
          have F0 := Aside0.mk (And.intro f10 f11)
          clear fp hp f10 f11
          go_wp2_with fail
          refine (HK.out _).mono ?_
          rintro e v1 ⟨gk, gkA, rfl, fk, fkA, hb⟩
          have fp := (hb.block _ (blk_lt HP.out.1)).trans HP.out.1
          have CK1 := Aside0.mk (CK.out v1 gk gkA Z5.heap.size ⟨fk, fkA, fp⟩)
          have S1 := Aside0.mk (below_step HP.out.2 hb)
          clear fk fkA fp hb HP CK HK
          go_wp2_with fail
          refine (CK1.out).mono ?_
          rintro e v2 ⟨rfl, hb⟩
          have S2 := Aside0.mk (below_step S1.out hb)
          clear hb S1 CK1
          have f10 := (S2.out.block _ (blk_lt F0.out.1)).trans F0.out.1
          have f11 := (S2.out.block _ (blk_lt F0.out.2)).trans F0.out.2
          have CI1 := Aside0.mk (CI.out v2 (LD.out.below S2.out))
          obtain ⟨x0, x1, x2, x3, x4, x5⟩ := cells6 f10
          obtain ⟨y0, y1, y2, y3, y4, y5⟩ := cells6 f11
          clear f10 f11 CI
          go_wp2_with fail
          refine (CI1.out).mono ?_
          rintro e v3 ⟨rfl, hb⟩
          have S3 := Aside0.mk (below_step S2.out hb)
          clear hb S2 CI1 x0 x1 x2 x3 x4 x5 y0 y1 y2 y3 y4 y5
          have f10 := (S3.out.block _ (blk_lt F0.out.1)).trans F0.out.1
          have f11 := (S3.out.block _ (blk_lt F0.out.2)).trans F0.out.2
          have CJ1 := Aside0.mk (CJ.out v3 (LD.out.below S3.out))
          obtain ⟨x0, x1, x2, x3, x4, x5⟩ := cells6 f10
          obtain ⟨y0, y1, y2, y3, y4, y5⟩ := cells6 f11
          clear f10 f11 CJ
          go_wp2_with fail
          refine (CJ1.out).mono ?_
          rintro e v4 ⟨rfl, hb⟩
          have S4 := Aside0.mk (below_step S3.out hb)
          clear hb S3 CJ1 x0 x1 x2 x3 x4 x5 y0 y1 y2 y3 y4 y5
          have f10 := (S4.out.block _ (blk_lt F0.out.1)).trans F0.out.1
          have f11 := (S4.out.block _ (blk_lt F0.out.2)).trans F0.out.2
          have CW1 := Aside0.mk (CW.out v4 (LD.out.below S4.out))
          obtain ⟨x0, x1, x2, x3, x4, x5⟩ := cells6 f10
          obtain ⟨y0, y1, y2, y3, y4, y5⟩ := cells6 f11
          clear f10 f11 CW F0
          go_wp2_with fail
          refine (CW1.out).mono ?_
          rintro e v5 ⟨rfl, hb⟩
          have S5 := Aside0.mk (below_step S4.out hb)
          clear hb S4 CW1 x0 x1 x2 x3 x4 x5 y0 y1 y2 y3 y4 y5
          go_wp2_with fail
          go_ret
          exact ⟨rfl, below_step HB.out S5.out⟩
        · skip
          by_cases c7 : T < 0
          · skip
            have G1 := B1.trans (decide_eq_true (p := 0 < U) (by omega))
            have G2 := B2.trans (decide_eq_false (p := U < M) (by omega))
            have G5 := B5.trans (decide_eq_false (p := U < 0) (by omega))
            have G6 := B6.trans (decide_eq_false (p := M < U) (by omega))
            have G7 := B7.trans (decide_eq_true (p := T < 0) (by omega))
            have HI : insR U T M N = false := by unfold insR; rw [Bool.eq_false_iff]; intro h; simp only [Bool.and_eq_true, decide_eq_true_eq] at h; omega
            have HO : outR U T M N = true := by unfold outR; simp only [Bool.or_eq_true, decide_eq_true_eq]; omega
            have QI := PL.out.1
            rw [HO] at QI
            have QW := PL.out.2.2 HO
            rw [QW] at CW
            rw [QI] at CI CJ
            clear B1 B2 B3 B4 B5 B6 B7 B8 HI HO QI PL hMp hNp QW c1 c2 c6 c7
            have fp := heap_alloc_new Z5 (po 4607182418800017408 4607182418800017408)
            have hp := below_alloc (Below.refl Z5.heap.size Z5) (po 4607182418800017408 4607182418800017408)
            have HP := Aside0.mk (And.intro fp hp)
            have F0 := Aside0.mk (And.intro f10 f11)
            clear fp hp f10 f11
            go_wp2_with fail
            refine (HK.out _).mono ?_
            rintro e v1 ⟨gk, gkA, rfl, fk, fkA, hb⟩
            have fp := (hb.block _ (blk_lt HP.out.1)).trans HP.out.1
            have CK1 := Aside0.mk (CK.out v1 gk gkA Z5.heap.size ⟨fk, fkA, fp⟩)
            have S1 := Aside0.mk (below_step HP.out.2 hb)
            clear fk fkA fp hb HP CK HK
            go_wp2_with fail
            refine (CK1.out).mono ?_
            rintro e v2 ⟨rfl, hb⟩
            have S2 := Aside0.mk (below_step S1.out hb)
            clear hb S1 CK1
            have f10 := (S2.out.block _ (blk_lt F0.out.1)).trans F0.out.1
            have f11 := (S2.out.block _ (blk_lt F0.out.2)).trans F0.out.2
            have CI1 := Aside0.mk (CI.out v2 (LD.out.below S2.out))
            obtain ⟨x0, x1, x2, x3, x4, x5⟩ := cells6 f10
            obtain ⟨y0, y1, y2, y3, y4, y5⟩ := cells6 f11
            clear f10 f11 CI
            go_wp2_with fail
            refine (CI1.out).mono ?_
            rintro e v3 ⟨rfl, hb⟩
            have S3 := Aside0.mk (below_step S2.out hb)
            clear hb S2 CI1 x0 x1 x2 x3 x4 x5 y0 y1 y2 y3 y4 y5
            have f10 := (S3.out.block _ (blk_lt F0.out.1)).trans F0.out.1
            have f11 := (S3.out.block _ (blk_lt F0.out.2)).trans F0.out.2
            have CJ1 := Aside0.mk (CJ.out v3 (LD.out.below S3.out))
            obtain ⟨x0, x1, x2, x3, x4, x5⟩ := cells6 f10
            obtain ⟨y0, y1, y2, y3, y4, y5⟩ := cells6 f11
            clear f10 f11 CJ
            go_wp2_with fail
            refine (CJ1.out).mono ?_
            rintro e v4 ⟨rfl, hb⟩
            have S4 := Aside0.mk (below_step S3.out hb)
            clear hb S3 CJ1 x0 x1 x2 x3 x4 x5 y0 y1 y2 y3 y4 y5
            have f10 := (S4.out.block _ (blk_lt F0.out.1)).trans F0.out.1
            have f11 := (S4.out.block _ (blk_lt F0.out.2)).trans F0.out.2
            have CW1 := Aside0.mk (CW.out v4 (LD.out.below S4.out))
            obtain ⟨x0, x1, x2, x3, x4, x5⟩ := cells6 f10
            obtain ⟨y0, y1, y2, y3, y4, y5⟩ := cells6 f11
            clear f10 f11 CW F0
            go_wp2_with fail
            refine (CW1.out).mono ?_
            rintro e v5 ⟨rfl, hb⟩
            have S5 := Aside0.mk (below_step S4.out hb)
            clear hb S4 CW1 x0 x1 x2 x3 x4 x5 y0 y1 y2 y3 y4 y5
            go_wp2_with fail
            go_ret
            exact ⟨rfl, below_step HB.out S5.out⟩
          · skip
            by_cases c8 : N < T
            · skip
              have G1 := B1.trans (decide_eq_true (p := 0 < U) (by omega))
              have G2 := B2.trans (decide_eq_false (p := U < M) (by omega))
              have G5 := B5.trans (decide_eq_false (p := U < 0) (by omega))
              have G6 := B6.trans (decide_eq_false (p := M < U) (by omega))
              have G7 := B7.trans (decide_eq_false (p := T < 0) (by omega))
              have G8 := B8.trans (decide_eq_true (p := N < T) (by omega))
              have HI : insR U T M N = false := by unfold insR; rw [Bool.eq_false_iff]; intro h; simp only [Bool.and_eq_true, decide_eq_true_eq] at h; omega
              have HO : outR U T M N = true := by unfold outR; simp only [Bool.or_eq_true, decide_eq_true_eq]; omega
              have QI := PL.out.1
              rw [HO] at QI
              have QW := PL.out.2.2 HO
              rw [QW] at CW
              rw [QI] at CI CJ
              clear B1 B2 B3 B4 B5 B6 B7 B8 HI HO QI PL hMp hNp QW c1 c2 c6 c7 c8
              have fp := heap_alloc_new Z5 (po 4607182418800017408 4607182418800017408)
              have hp := below_alloc (Below.refl Z5.heap.size Z5) (po 4607182418800017408 4607182418800017408)
              have HP := Aside0.mk (And.intro fp hp)
              have F0 := Aside0.mk (And.intro f10 f11)
              clear fp hp f10 f11
              go_wp2_with fail
              refine (HK.out _).mono ?_
              rintro e v1 ⟨gk, gkA, rfl, fk, fkA, hb⟩
              have fp := (hb.block _ (blk_lt HP.out.1)).trans HP.out.1
              have CK1 := Aside0.mk (CK.out v1 gk gkA Z5.heap.size ⟨fk, fkA, fp⟩)
              have S1 := Aside0.mk (below_step HP.out.2 hb)
              clear fk fkA fp hb HP CK HK
              go_wp2_with fail
              refine (CK1.out).mono ?_
              rintro e v2 ⟨rfl, hb⟩
              have S2 := Aside0.mk (below_step S1.out hb)
              clear hb S1 CK1
              have f10 := (S2.out.block _ (blk_lt F0.out.1)).trans F0.out.1
              have f11 := (S2.out.block _ (blk_lt F0.out.2)).trans F0.out.2
              have CI1 := Aside0.mk (CI.out v2 (LD.out.below S2.out))
              obtain ⟨x0, x1, x2, x3, x4, x5⟩ := cells6 f10
              obtain ⟨y0, y1, y2, y3, y4, y5⟩ := cells6 f11
              clear f10 f11 CI
              go_wp2_with fail
              refine (CI1.out).mono ?_
              rintro e v3 ⟨rfl, hb⟩
              have S3 := Aside0.mk (below_step S2.out hb)
              clear hb S2 CI1 x0 x1 x2 x3 x4 x5 y0 y1 y2 y3 y4 y5
              have f10 := (S3.out.block _ (blk_lt F0.out.1)).trans F0.out.1
              have f11 := (S3.out.block _ (blk_lt F0.out.2)).trans F0.out.2
              have CJ1 := Aside0.mk (CJ.out v3 (LD.out.below S3.out))
              obtain ⟨x0, x1, x2, x3, x4, x5⟩ := cells6 f10
              obtain ⟨y0, y1, y2, y3, y4, y5⟩ := cells6 f11
              clear f10 f11 CJ
              go_wp2_with fail
              refine (CJ1.out).mono ?_
              rintro e v4 ⟨rfl, hb⟩
              have S4 := Aside0.mk (below_step S3.out hb)
              clear hb S3 CJ1 x0 x1 x2 x3 x4 x5 y0 y1 y2 y3 y4 y5
              have f10 := (S4.out.block _ (blk_lt F0.out.1)).trans F0.out.1
              have f11 := (S4.out.block _ (blk_lt F0.out.2)).trans F0.out.2
              have CW1 := Aside0.mk (CW.out v4 (LD.out.below S4.out))
              obtain ⟨x0, x1, x2, x3, x4, x5⟩ := cells6 f10
              obtain ⟨y0, y1, y2, y3, y4, y5⟩ := cells6 f11
              clear f10 f11 CW F0
              go_wp2_with fail
              refine (CW1.out).mono ?_
              rintro e v5 ⟨rfl, hb⟩
              have S5 := Aside0.mk (below_step S4.out hb)
              clear hb S4 CW1 x0 x1 x2 x3 x4 x5 y0 y1 y2 y3 y4 y5
              go_wp2_with fail
              go_ret
              exact ⟨rfl, below_step HB.out S5.out⟩
            · skip
              have G1 := B1.trans (decide_eq_true (p := 0 < U) (by omega))
              have G2 := B2.trans (decide_eq_false (p := U < M) (by omega))
              have G5 := B5.trans (decide_eq_false (p := U < 0) (by omega))
              have G6 := B6.trans (decide_eq_false (p := M < U) (by omega))
              have G7 := B7.trans (decide_eq_false (p := T < 0) (by omega))
              have G8 := B8.trans (decide_eq_false (p := N < T) (by omega))
              have HI : insR U T M N = false := by unfold insR; rw [Bool.eq_false_iff]; intro h; simp only [Bool.and_eq_true, decide_eq_true_eq] at h; omega
              have HO : outR U T M N = false := by unfold outR; rw [Bool.eq_false_iff]; intro h; simp only [Bool.or_eq_true, decide_eq_true_eq] at h; omega
              have QI := PL.out.1
              rw [HO] at QI
              rw [QI] at CI CJ
              clear B1 B2 B3 B4 B5 B6 B7 B8 HI HO QI PL hMp hNp c1 c2 c6 c7 c8
              have fp := heap_alloc_new Z5 (po 4607182418800017408 4607182418800017408)
              have hp := below_alloc (Below.refl Z5.heap.size Z5) (po 4607182418800017408 4607182418800017408)
              have HP := Aside0.mk (And.intro fp hp)
              have F0 := Aside0.mk (And.intro f10 f11)
              clear fp hp f10 f11
              go_wp2_with fail
              refine (HK.out _).mono ?_
              rintro e v1 ⟨gk, gkA, rfl, fk, fkA, hb⟩
              have fp := (hb.block _ (blk_lt HP.out.1)).trans HP.out.1
              have CK1 := Aside0.mk (CK.out v1 gk gkA Z5.heap.size ⟨fk, fkA, fp⟩)
              have S1 := Aside0.mk (below_step HP.out.2 hb)
              clear fk fkA fp hb HP CK HK
              go_wp2_with fail
              refine (CK1.out).mono ?_
              rintro e v2 ⟨rfl, hb⟩
              have S2 := Aside0.mk (below_step S1.out hb)
              clear hb S1 CK1
              have f10 := (S2.out.block _ (blk_lt F0.out.1)).trans F0.out.1
              have f11 := (S2.out.block _ (blk_lt F0.out.2)).trans F0.out.2
              have CI1 := Aside0.mk (CI.out v2 (LD.out.below S2.out))
              obtain ⟨x0, x1, x2, x3, x4, x5⟩ := cells6 f10
              obtain ⟨y0, y1, y2, y3, y4, y5⟩ := cells6 f11
              clear f10 f11 CI
              go_wp2_with fail
              refine (CI1.out).mono ?_
              rintro e v3 ⟨rfl, hb⟩
              have S3 := Aside0.mk (below_step S2.out hb)
              clear hb S2 CI1 x0 x1 x2 x3 x4 x5 y0 y1 y2 y3 y4 y5
              have f10 := (S3.out.block _ (blk_lt F0.out.1)).trans F0.out.1
              have f11 := (S3.out.block _ (blk_lt F0.out.2)).trans F0.out.2
              have CJ1 := Aside0.mk (CJ.out v3 (LD.out.below S3.out))
              obtain ⟨x0, x1, x2, x3, x4, x5⟩ := cells6 f10
              obtain ⟨y0, y1, y2, y3, y4, y5⟩ := cells6 f11
              clear f10 f11 CJ
              go_wp2_with fail
              refine (CJ1.out).mono ?_
              rintro e v4 ⟨rfl, hb⟩
              have S4 := Aside0.mk (below_step S3.out hb)
              clear hb S3 CJ1 x0 x1 x2 x3 x4 x5 y0 y1 y2 y3 y4 y5
              have f10 := (S4.out.block _ (blk_lt F0.out.1)).trans F0.out.1
              have f11 := (S4.out.block _ (blk_lt F0.out.2)).trans F0.out.2
              have CW1 := Aside0.mk (CW.out v4 (LD.out.below S4.out))
              obtain ⟨x0, x1, x2, x3, x4, x5⟩ := cells6 f10
              obtain ⟨y0, y1, y2, y3, y4, y5⟩ := cells6 f11
              clear f10 f11 CW F0
              go_wp2_with fail
              go_ret
              exact ⟨rfl, below_step HB.out S4.out⟩
    · skip
      by_cases c5 : U < 0
      · skip
        have G1 := B1.trans (decide_eq_false (p := 0 < U) (by omega))
        have G5 := B5.trans (decide_eq_true (p := U < 0) (by omega))
        have HI : insR U T M N = false := by unfold insR; rw [Bool.eq_false_iff]; intro h; simp only [Bool.and_eq_true, decide_eq_true_eq] at h; omega
        have HO : outR U T M N = true := by unfold outR; simp only [Bool.or_eq_true, decide_eq_true_eq]; omega
        have QI := PL.out.1
        rw [HO] at QI
        have QW := PL.out.2.2 HO
        rw [QW] at CW
        rw [QI] at CI CJ
        clear B1 B2 B3 B4 B5 B6 B7 B8 HI HO QI PL hMp hNp QW c1 c5
        have fp := heap_alloc_new Z5 (po 4607182418800017408 4607182418800017408)
        have hp := below_alloc (Below.refl Z5.heap.size Z5) (po 4607182418800017408 4607182418800017408)
        have HP := Aside0.mk (And.intro fp hp)
        have F0 := Aside0.mk (And.intro f10 f11)
        clear fp hp f10 f11
        go_wp2_with fail
        refine (HK.out _).mono ?_
        rintro e v1 ⟨gk, gkA, rfl, fk, fkA, hb⟩
        have fp := (hb.block _ (blk_lt HP.out.1)).trans HP.out.1
        have CK1 := Aside0.mk (CK.out v1 gk gkA Z5.heap.size ⟨fk, fkA, fp⟩)
        have S1 := Aside0.mk (below_step HP.out.2 hb)
        clear fk fkA fp hb HP CK HK
        go_wp2_with fail
        refine (CK1.out).mono ?_
        rintro e v2 ⟨rfl, hb⟩
        have S2 := Aside0.mk (below_step S1.out hb)
        clear hb S1 CK1
        have f10 := (S2.out.block _ (blk_lt F0.out.1)).trans F0.out.1
        have f11 := (S2.out.block _ (blk_lt F0.out.2)).trans F0.out.2
        have CI1 := Aside0.mk (CI.out v2 (LD.out.below S2.out))
        obtain ⟨x0, x1, x2, x3, x4, x5⟩ := cells6 f10
        obtain ⟨y0, y1, y2, y3, y4, y5⟩ := cells6 f11
        clear f10 f11 CI
        go_wp2_with fail
        refine (CI1.out).mono ?_
        rintro e v3 ⟨rfl, hb⟩
        have S3 := Aside0.mk (below_step S2.out hb)
        clear hb S2 CI1 x0 x1 x2 x3 x4 x5 y0 y1 y2 y3 y4 y5
        have f10 := (S3.out.block _ (blk_lt F0.out.1)).trans F0.out.1
        have f11 := (S3.out.block _ (blk_lt F0.out.2)).trans F0.out.2
        have CJ1 := Aside0.mk (CJ.out v3 (LD.out.below S3.out))
        obtain ⟨x0, x1, x2, x3, x4, x5⟩ := cells6 f10
        obtain ⟨y0, y1, y2, y3, y4, y5⟩ := cells6 f11
        clear f10 f11 CJ
        go_wp2_with fail
        refine (CJ1.out).mono ?_
        rintro e v4 ⟨rfl, hb⟩
        have S4 := Aside0.mk (below_step S3.out hb)
        clear hb S3 CJ1 x0 x1 x2 x3 x4 x5 y0 y1 y2 y3 y4 y5
        have f10 := (S4.out.block _ (blk_lt F0.out.1)).trans F0.out.1
        have f11 := (S4.out.block _ (blk_lt F0.out.2)).trans F0.out.2
        have CW1 := Aside0.mk (CW.out v4 (LD.out.below S4.out))
        obtain ⟨x0, x1, x2, x3, x4, x5⟩ := cells6 f10
        obtain ⟨y0, y1, y2, y3, y4, y5⟩ := cells6 f11
        clear f10 f11 CW F0
        go_wp2_with fail
        refine (CW1.out).mono ?_
        rintro e v5 ⟨rfl, hb⟩
        have S5 := Aside0.mk (below_step S4.out hb)
        clear hb S4 CW1 x0 x1 x2 x3 x4 x5 y0 y1 y2 y3 y4 y5
        go_wp2_with fail
        go_ret
        exact ⟨rfl, below_step HB.out S5.out⟩
      · skip
        by_cases c7 : T < 0
        · skip
          have G1 := B1.trans (decide_eq_false (p := 0 < U) (by omega))
          have G5 := B5.trans (decide_eq_false (p := U < 0) (by omega))
          have G6 := B6.trans (decide_eq_false (p := M < U) (by omega))
          have G7 := B7.trans (decide_eq_true (p := T < 0) (by omega))
          have HI : insR U T M N = false := by unfold insR; rw [Bool.eq_false_iff]; intro h; simp only [Bool.and_eq_true, decide_eq_true_eq] at h; omega
          have HO : outR U T M N = true := by unfold outR; simp only [Bool.or_eq_true, decide_eq_true_eq]; omega
          have QI := PL.out.1
          rw [HO] at QI
          have QW := PL.out.2.2 HO
          rw [QW] at CW
          rw [QI] at CI CJ
          clear B1 B2 B3 B4 B5 B6 B7 B8 HI HO QI PL hMp hNp QW c1 c5 c7
          have fp := heap_alloc_new Z5 (po 4607182418800017408 4607182418800017408)
          have hp := below_alloc (Below.refl Z5.heap.size Z5) (po 4607182418800017408 4607182418800017408)
          have HP := Aside0.mk (And.intro fp hp)
          have F0 := Aside0.mk (And.intro f10 f11)
          clear fp hp f10 f11
          go_wp2_with fail
          refine (HK.out _).mono ?_
          rintro e v1 ⟨gk, gkA, rfl, fk, fkA, hb⟩
          have fp := (hb.block _ (blk_lt HP.out.1)).trans HP.out.1
          have CK1 := Aside0.mk (CK.out v1 gk gkA Z5.heap.size ⟨fk, fkA, fp⟩)
          have S1 := Aside0.mk (below_step HP.out.2 hb)
          clear fk fkA fp hb HP CK HK
          go_wp2_with fail
          refine (CK1.out).mono ?_
          rintro e v2 ⟨rfl, hb⟩
          have S2 := Aside0.mk (below_step S1.out hb)
          clear hb S1 CK1
          have f10 := (S2.out.block _ (blk_lt F0.out.1)).trans F0.out.1
          have f11 := (S2.out.block _ (blk_lt F0.out.2)).trans F0.out.2
          have CI1 := Aside0.mk (CI.out v2 (LD.out.below S2.out))
          obtain ⟨x0, x1, x2, x3, x4, x5⟩ := cells6 f10
          obtain ⟨y0, y1, y2, y3, y4, y5⟩ := cells6 f11
          clear f10 f11 CI
          go_wp2_with fail
          refine (CI1.out).mono ?_
          rintro e v3 ⟨rfl, hb⟩
          have S3 := Aside0.mk (below_step S2.out hb)
          clear hb S2 CI1 x0 x1 x2 x3 x4 x5 y0 y1 y2 y3 y4 y5
          have f10 := (S3.out.block _ (blk_lt F0.out.1)).trans F0.out.1
          have f11 := (S3.out.block _ (blk_lt F0.out.2)).trans F0.out.2
          have CJ1 := Aside0.mk (CJ.out v3 (LD.out.below S3.out))
          obtain ⟨x0, x1, x2, x3, x4, x5⟩ := cells6 f10
          obtain ⟨y0, y1, y2, y3, y4, y5⟩ := cells6 f11
          clear f10 f11 CJ
          go_wp2_with fail
          refine (CJ1.out).mono ?_
          rintro e v4 ⟨rfl, hb⟩
          have S4 := Aside0.mk (below_step S3.out hb)
          clear hb S3 CJ1 x0 x1 x2 x3 x4 x5 y0 y1 y2 y3 y4 y5
          have f10 := (S4.out.block _ (blk_lt F0.out.1)).trans F0.out.1
          have f11 := (S4.out.block _ (blk_lt F0.out.2)).trans F0.out.2
          have CW1 := Aside0.mk (CW.out v4 (LD.out.below S4.out))
          obtain ⟨x0, x1, x2, x3, x4, x5⟩ := cells6 f10
          obtain ⟨y0, y1, y2, y3, y4, y5⟩ := cells6 f11
          clear f10 f11 CW F0
          go_wp2_with fail
          refine (CW1.out).mono ?_
          rintro e v5 ⟨rfl, hb⟩
          have S5 := Aside0.mk (below_step S4.out hb)
          clear hb S4 CW1 x0 x1 x2 x3 x4 x5 y0 y1 y2 y3 y4 y5
          go_wp2_with fail
          go_ret
          exact ⟨rfl, below_step HB.out S5.out⟩
        · skip
          by_cases c8 : N < T
          · skip
            have G1 := B1.trans (decide_eq_false (p := 0 < U) (by omega))
            have G5 := B5.trans (decide_eq_false (p := U < 0) (by omega))
            have G6 := B6.trans (decide_eq_false (p := M < U) (by omega))
            have G7 := B7.trans (decide_eq_false (p := T < 0) (by omega))
            have G8 := B8.trans (decide_eq_true (p := N < T) (by omega))
            have HI : insR U T M N = false := by unfold insR; rw [Bool.eq_false_iff]; intro h; simp only [Bool.and_eq_true, decide_eq_true_eq] at h; omega
            have HO : outR U T M N = true := by unfold outR; simp only [Bool.or_eq_true, decide_eq_true_eq]; omega
            have QI := PL.out.1
            rw [HO] at QI
            have QW := PL.out.2.2 HO
            rw [QW] at CW
            rw [QI] at CI CJ
            clear B1 B2 B3 B4 B5 B6 B7 B8 HI HO QI PL hMp hNp QW c1 c5 c7 c8
            have fp := heap_alloc_new Z5 (po 4607182418800017408 4607182418800017408)
            have hp := below_alloc (Below.refl Z5.heap.size Z5) (po 4607182418800017408 4607182418800017408)
            have HP := Aside0.mk (And.intro fp hp)
            have F0 := Aside0.mk (And.intro f10 f11)
            clear fp hp f10 f11
            go_wp2_with fail
            refine (HK.out _).mono ?_
            rintro e v1 ⟨gk, gkA, rfl, fk, fkA, hb⟩
            have fp := (hb.block _ (blk_lt HP.out.1)).trans HP.out.1
            have CK1 := Aside0.mk (CK.out v1 gk gkA Z5.heap.size ⟨fk, fkA, fp⟩)
            have S1 := Aside0.mk (below_step HP.out.2 hb)
            clear fk fkA fp hb HP CK HK
            go_wp2_with fail
            refine (CK1.out).mono ?_
            rintro e v2 ⟨rfl, hb⟩
            have S2 := Aside0.mk (below_step S1.out hb)
            clear hb S1 CK1
            have f10 := (S2.out.block _ (blk_lt F0.out.1)).trans F0.out.1
            have f11 := (S2.out.block _ (blk_lt F0.out.2)).trans F0.out.2
            have CI1 := Aside0.mk (CI.out v2 (LD.out.below S2.out))
            obtain ⟨x0, x1, x2, x3, x4, x5⟩ := cells6 f10
            obtain ⟨y0, y1, y2, y3, y4, y5⟩ := cells6 f11
            clear f10 f11 CI
            go_wp2_with fail
            refine (CI1.out).mono ?_
            rintro e v3 ⟨rfl, hb⟩
            have S3 := Aside0.mk (below_step S2.out hb)
            clear hb S2 CI1 x0 x1 x2 x3 x4 x5 y0 y1 y2 y3 y4 y5
            have f10 := (S3.out.block _ (blk_lt F0.out.1)).trans F0.out.1
            have f11 := (S3.out.block _ (blk_lt F0.out.2)).trans F0.out.2
            have CJ1 := Aside0.mk (CJ.out v3 (LD.out.below S3.out))
            obtain ⟨x0, x1, x2, x3, x4, x5⟩ := cells6 f10
            obtain ⟨y0, y1, y2, y3, y4, y5⟩ := cells6 f11
            clear f10 f11 CJ
            go_wp2_with fail
            refine (CJ1.out).mono ?_
            rintro e v4 ⟨rfl, hb⟩
            have S4 := Aside0.mk (below_step S3.out hb)
            clear hb S3 CJ1 x0 x1 x2 x3 x4 x5 y0 y1 y2 y3 y4 y5
            have f10 := (S4.out.block _ (blk_lt F0.out.1)).trans F0.out.1
            have f11 := (S4.out.block _ (blk_lt F0.out.2)).trans F0.out.2
            have CW1 := Aside0.mk (CW.out v4 (LD.out.below S4.out))
            obtain ⟨x0, x1, x2, x3, x4, x5⟩ := cells6 f10
            obtain ⟨y0, y1, y2, y3, y4, y5⟩ := cells6 f11
            clear f10 f11 CW F0
            go_wp2_with fail
            refine (CW1.out).mono ?_
            rintro e v5 ⟨rfl, hb⟩
            have S5 := Aside0.mk (below_step S4.out hb)
            clear hb S4 CW1 x0 x1 x2 x3 x4 x5 y0 y1 y2 y3 y4 y5
            go_wp2_with fail
            go_ret
            exact ⟨rfl, below_step HB.out S5.out⟩
          · skip
            have G1 := B1.trans (decide_eq_false (p := 0 < U) (by omega))
            have G5 := B5.trans (decide_eq_false (p := U < 0) (by omega))
            have G6 := B6.trans (decide_eq_false (p := M < U) (by omega))
            have G7 := B7.trans (decide_eq_false (p := T < 0) (by omega))
            have G8 := B8.trans (decide_eq_false (p := N < T) (by omega))
            have HI : insR U T M N = false := by unfold insR; rw [Bool.eq_false_iff]; intro h; simp only [Bool.and_eq_true, decide_eq_true_eq] at h; omega
            have HO : outR U T M N = false := by unfold outR; rw [Bool.eq_false_iff]; intro h; simp only [Bool.or_eq_true, decide_eq_true_eq] at h; omega
            have QI := PL.out.1
            rw [HO] at QI
            rw [QI] at CI CJ
            clear B1 B2 B3 B4 B5 B6 B7 B8 HI HO QI PL hMp hNp c1 c5 c7 c8
            have fp := heap_alloc_new Z5 (po 4607182418800017408 4607182418800017408)
            have hp := below_alloc (Below.refl Z5.heap.size Z5) (po 4607182418800017408 4607182418800017408)
            have HP := Aside0.mk (And.intro fp hp)
            have F0 := Aside0.mk (And.intro f10 f11)
            clear fp hp f10 f11
            go_wp2_with fail
            refine (HK.out _).mono ?_
            rintro e v1 ⟨gk, gkA, rfl, fk, fkA, hb⟩
            have fp := (hb.block _ (blk_lt HP.out.1)).trans HP.out.1
            have CK1 := Aside0.mk (CK.out v1 gk gkA Z5.heap.size ⟨fk, fkA, fp⟩)
            have S1 := Aside0.mk (below_step HP.out.2 hb)
            clear fk fkA fp hb HP CK HK
            go_wp2_with fail
            refine (CK1.out).mono ?_
            rintro e v2 ⟨rfl, hb⟩
            have S2 := Aside0.mk (below_step S1.out hb)
            clear hb S1 CK1
            have f10 := (S2.out.block _ (blk_lt F0.out.1)).trans F0.out.1
            have f11 := (S2.out.block _ (blk_lt F0.out.2)).trans F0.out.2
            have CI1 := Aside0.mk (CI.out v2 (LD.out.below S2.out))
            obtain ⟨x0, x1, x2, x3, x4, x5⟩ := cells6 f10
            obtain ⟨y0, y1, y2, y3, y4, y5⟩ := cells6 f11
            clear f10 f11 CI
            go_wp2_with fail
            refine (CI1.out).mono ?_
            rintro e v3 ⟨rfl, hb⟩
            have S3 := Aside0.mk (below_step S2.out hb)
            clear hb S2 CI1 x0 x1 x2 x3 x4 x5 y0 y1 y2 y3 y4 y5
            have f10 := (S3.out.block _ (blk_lt F0.out.1)).trans F0.out.1
            have f11 := (S3.out.block _ (blk_lt F0.out.2)).trans F0.out.2
            have CJ1 := Aside0.mk (CJ.out v3 (LD.out.below S3.out))
            obtain ⟨x0, x1, x2, x3, x4, x5⟩ := cells6 f10
            obtain ⟨y0, y1, y2, y3, y4, y5⟩ := cells6 f11
            clear f10 f11 CJ
            go_wp2_with fail
            refine (CJ1.out).mono ?_
            rintro e v4 ⟨rfl, hb⟩
            have S4 := Aside0.mk (below_step S3.out hb)
            clear hb S3 CJ1 x0 x1 x2 x3 x4 x5 y0 y1 y2 y3 y4 y5
            have f10 := (S4.out.block _ (blk_lt F0.out.1)).trans F0.out.1
            have f11 := (S4.out.block _ (blk_lt F0.out.2)).trans F0.out.2
            have CW1 := Aside0.mk (CW.out v4 (LD.out.below S4.out))
            obtain ⟨x0, x1, x2, x3, x4, x5⟩ := cells6 f10
            obtain ⟨y0, y1, y2, y3, y4, y5⟩ := cells6 f11
            clear f10 f11 CW F0
            go_wp2_with fail
            go_ret
            exact ⟨rfl, below_step HB.out S4.out⟩
  clear aK
  exact reg4_ok a0 a1 p0 p1 wd hg r1 r2 HRc w w2 f4 f7 K _ _ _ _ _ _ _ _ _ _ _ _ _ _ _ _ _ _ _ _ _ _ _ _ _ _ _ _ _ _ _ _ _ _ _ _ _ _ _ _ _ _ _ _ _ _ _ _ _ _ _ _ _ _ _ _ _ _ _ _ _ _ _ _ _ _ _ _ _ _ _ _ _ _ _ _ _ _ _ _ _ _ _ _ _ _ _ _ _ _ _ _ _ _ _ _ _ _ _ _ _ _ _ _ _ _ _ _ _ _ _ _ _ _ _ REST
end Go.Proofs.YtjhgmpeoagndjaaGreat.GE
