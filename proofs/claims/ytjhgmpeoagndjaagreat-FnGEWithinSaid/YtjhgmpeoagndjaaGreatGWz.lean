/-
  The law's region that lays the rectangle and the point, in all its orders. Condition: the sums are given.
-/
import Derived.Test.YtjhgmpeoagndjaaGreatGWx
namespace Go.Proofs.YtjhgmpeoagndjaaGreat.GE
open Go.RowKit Go.Proofs.YtjhgmpeoagndjaaGreatW.PrintWords Go.Proofs.YtjhgmpeoagndjaaGreatW.PrintLast Go.Proofs.YtjhgmpeoagndjaaGreatW.PrintMore
open Go.Proofs.YtjhgmpeoagndjaaGreat.Flo
set_option linter.unusedVariables false
set_option linter.unusedSimpArgs false
set_option maxRecDepth 100000
set_option maxHeartbeats 4000000

theorem blk_up {W : World} {b : Nat} {x : Obj} (h : W.heap[b]? = some x) (o : Obj) : (W.alloc o).heap[b]? = some x := ((below_alloc (Below.refl W.heap.size W) o).block _ (blk_lt h)).trans h
theorem ne_of_obj {W : World} {i j : Nat} {a b : Obj} (h1 : W.heap[i]? = some a) (h2 : W.heap[j]? = some b) (h : a ≠ b) : i ≠ j := by
  rintro rfl
  exact h (Option.some.inj (h1.symm.trans h2))
section
variable {W : World} {g t : Nat} {a b c d e f : Value}
theorem set6 (h : W.heap[g]? = some (.cells #[a, b, c, d, e, f] t (0, 0))) (a' b' c' d' e' f' : Value) : ((((((W.setCell ⟨g, 0, none⟩ a').setCell ⟨g, 1, none⟩ b').setCell ⟨g, 2, none⟩ c').setCell ⟨g, 3, none⟩ d').setCell ⟨g, 4, none⟩ e').setCell ⟨g, 5, none⟩ f').heap[g]? = some (.cells #[a', b', c', d', e', f'] t (0, 0)) := by
  simp [World.setCell, Array.getElem?_modify, h]
theorem set6_ne {k : Nat} (h : k ≠ g) (a' b' c' d' e' f' : Value) : ((((((W.setCell ⟨g, 0, none⟩ a').setCell ⟨g, 1, none⟩ b').setCell ⟨g, 2, none⟩ c').setCell ⟨g, 3, none⟩ d').setCell ⟨g, 4, none⟩ e').setCell ⟨g, 5, none⟩ f').heap[k]? = W.heap[k]? := by
  simp only [heap_setCell_other _ _ _ _ (show k ≠ (⟨g, _, none⟩ : Addr).block from h)]
theorem below_set6 {B : Nat} {V : World} (hb : Below B V W) (h : B ≤ g) (a' b' c' d' e' f' : Value) : Below B V ((((((W.setCell ⟨g, 0, none⟩ a').setCell ⟨g, 1, none⟩ b').setCell ⟨g, 2, none⟩ c').setCell ⟨g, 3, none⟩ d').setCell ⟨g, 4, none⟩ e').setCell ⟨g, 5, none⟩ f') :=
  (((((hb.setCell h _).setCell h _).setCell h _).setCell h _).setCell h _).setCell h _
end
def cdr : Code → Code
  | .seq _ b => b
  | c => c
def car : Code → Code
  | .seq a _ => a
  | c => c
/-- The region, as it stands in the law's code. -/
noncomputable def r4 : Code := car (cdr (cdr (cdr (Tryz.f3.body.getD .skip))))
theorem reg4_ok (a0 a1 p0 p1 wd hg r1 r2 : Nat) (HRc : Aside0 (∀ w : World, Calls Tryz.prog 5 #[.float .f64 a0, .float .f64 a1, .float .f64 wd, .float .f64 hg] w fun e w' => ∃ g gA, e = .returned (geoR g 1) ∧ w'.heap[g]? = some (boS gA) ∧ w'.heap[gA]? = some (boA a0 a1 r1 r2) ∧ Below w.heap.size w w')) (w w2 : World)
    (f4 : w2.heap[w.heap.size]? = some (po a0 a1)) (f7 : w2.heap[w.heap.size + 1]? = some (po p0 p1)) (K : Act → World → Prop) (Q : Exit → Act → World → Prop) (u0 u1 u2 u3 u5 u6 u11 u12 u13 u14 u15 u16 u17 u18 u19 u20 u21 u22 u23 u24 u25 u26 u27 u28 u29 u30 u31 u32 u33 u34 u35 u36 u37 u38 u39 u40 u41 u42 u43 u44 u45 u46 u47 u48 u49 u50 u51 u52 u53 u54 u55 u56 u57 u58 u59 u60 u61 u62 u63 u64 u65 u66 u67 u68 u69 u70 u71 u72 u73 u74 u75 u76 u77 u78 u79 u80 u81 u82 u83 u84 u85 u86 u87 u88 u89 u90 u91 u92 u93 u94 u95 u96 u97 u98 u99 u100 u101 u102 u103 u104 u105 u106 u107 u108 u109 u110 u111 u112 u113 u114 u115 u116 u117 u118 : Value)
    (REST : ∀ {Z : World} {i10 i11 g gA b8 : Nat} {x0 x1 x2 x3 x5 x6 x13 x14 x15 x16 x17 x18 x19 x20 x21 x22 x23 x24 x25 x26 x27 x28 x29 x30 x31 x32 x33 x34 x35 x36 x37 x38 x39 x40 x41 x42 x43 x44 x45 x46 x47 x48 x49 x50 x51 x52 x53 x54 x55 x56 x57 x58 x59 x60 x61 x62 x63 x64 x65 x66 x67 x68 x69 x70 x71 x72 x73 x74 x75 x76 x77 x78 x79 x80 x81 x82 x83 x84 x85 x86 x87 x88 x89 x90 x91 x92 x93 x94 x95 x96 x97 x98 x99 x100 x101 x102 x103 x104 x105 x106 x107 x108 x109 x110 x111 x112 x113 x114 x115 x116 x117 x118 : Value}, Z.heap[i10]? = some (boR g 1) → Z.heap[i11]? = some (boP b8 1) → Z.heap[b8]? = some (po p0 p1) → Z.heap[g]? = some (boS gA) → Z.heap[gA]? = some (boA a0 a1 r1 r2) → Below w2.heap.size w2 Z → K ⟨#[x0, x1, x2, x3, .pointer (some ⟨w.heap.size, 0, none⟩), x5, x6, .pointer (some ⟨w.heap.size + 1, 0, none⟩), .bool false, .float .f64 wd, .float .f64 hg, .pointer (some ⟨i10, 0, none⟩), .pointer (some ⟨i11, 0, none⟩), x13, x14, x15, x16, x17, x18, x19, x20, x21, x22, x23, x24, x25, x26, x27, x28, x29, x30, x31, x32, x33, x34, x35, x36, x37, x38, x39, x40, x41, x42, x43, x44, x45, x46, x47, x48, x49, x50, x51, x52, x53, x54, x55, x56, x57, x58, x59, x60, x61, x62, x63, x64, x65, x66, x67, x68, x69, x70, x71, x72, x73, x74, x75, x76, x77, x78, x79, x80, x81, x82, x83, x84, x85, x86, x87, x88, x89, x90, x91, x92, x93, x94, x95, x96, x97, x98, x99, x100, x101, x102, x103, x104, x105, x106, x107, x108, x109, x110, x111, x112, x113, x114, x115, x116, x117, x118], []⟩ Z) :
    Code.wp Tryz.prog r4 (Exit.then K Q) ⟨#[u0, u1, u2, u3, .pointer (some ⟨w.heap.size, 0, none⟩), u5, u6, .pointer (some ⟨w.heap.size + 1, 0, none⟩), .bool false, .float .f64 wd, .float .f64 hg, u11, u12, u13, u14, u15, u16, u17, u18, u19, u20, u21, u22, u23, u24, u25, u26, u27, u28, u29, u30, u31, u32, u33, u34, u35, u36, u37, u38, u39, u40, u41, u42, u43, u44, u45, u46, u47, u48, u49, u50, u51, u52, u53, u54, u55, u56, u57, u58, u59, u60, u61, u62, u63, u64, u65, u66, u67, u68, u69, u70, u71, u72, u73, u74, u75, u76, u77, u78, u79, u80, u81, u82, u83, u84, u85, u86, u87, u88, u89, u90, u91, u92, u93, u94, u95, u96, u97, u98, u99, u100, u101, u102, u103, u104, u105, u106, u107, u108, u109, u110, u111, u112, u113, u114, u115, u116, u117, u118], []⟩ w2 := by
  obtain ⟨q0, q1⟩ := ptc f4
  obtain ⟨q2, q3⟩ := ptc f7
  clear f4 f7
  unfold r4 Tryz.f3
  simp only [Option.getD_some, cdr, car]
  refine wp_region_noPanic ?_
  refine wp_region_held_drew (S := fun W => Below w2.heap.size w2 W) (by kernel_rfl) ?_ (fun hHeld => ?_)
  · exact below_drew (Below.refl _ _)
  generalize w2.drew = Z0 at hHeld ⊢
  refine take_ (oi := ?oi1) (i := 0) (N := some 29) (v := ?v1) ?hi1 (by kernel_rfl) (by kernel_rfl) (by kernel_rfl) ?hQ1 ?hN1 (Or.inl ⟨?hw1, ?hy1⟩) hHeld ?rest1
  case hi1 => simp only [List.getElem?_toArray, List.getElem?_cons_zero, List.getElem?_cons_succ]; rfl
  case hQ1 => exact fun _ _ _ h => h
  case hN1 => rfl
  case hw1 => rfl
  case hy1 => intro W hSw; have z0 := pw_cell_below (show Below _ _ W from hSw) q0; have z1 := pw_cell_below (show Below _ _ W from hSw) q1; have z2 := pw_cell_below (show Below _ _ W from hSw) q2; have z3 := pw_cell_below (show Below _ _ W from hSw) q3; go_simp; (try with_reducible rfl)
  simp only [Act.put, List.setIfInBounds_toArray, List.set_cons_zero, List.set_cons_succ]
  refine take_ (oi := ?oi2) (i := 1) (N := some 30) (v := ?v2) ?hi2 (by kernel_rfl) (by kernel_rfl) (by kernel_rfl) ?hQ2 ?hN2 (Or.inl ⟨?hw2, ?hy2⟩) hHeld ?rest2
  case hi2 => simp only [List.getElem?_toArray, List.getElem?_cons_zero, List.getElem?_cons_succ]; rfl
  case hQ2 => exact fun _ _ _ h => h
  case hN2 => rfl
  case hw2 => rfl
  case hy2 => intro W hSw; have z0 := pw_cell_below (show Below _ _ W from hSw) q0; have z1 := pw_cell_below (show Below _ _ W from hSw) q1; have z2 := pw_cell_below (show Below _ _ W from hSw) q2; have z3 := pw_cell_below (show Below _ _ W from hSw) q3; go_simp; (try with_reducible rfl)
  simp only [Act.put, List.setIfInBounds_toArray, List.set_cons_zero, List.set_cons_succ]
  refine take_ (oi := ?oi3) (i := 2) (N := some 31) (v := ?v3) ?hi3 (by kernel_rfl) (by kernel_rfl) (by kernel_rfl) ?hQ3 ?hN3 (Or.inl ⟨?hw3, ?hy3⟩) hHeld ?rest3
  case hi3 => simp only [List.getElem?_toArray, List.getElem?_cons_zero, List.getElem?_cons_succ]; rfl
  case hQ3 => exact fun _ _ _ h => h
  case hN3 => rfl
  case hw3 => rfl
  case hy3 => intro W hSw; have z0 := pw_cell_below (show Below _ _ W from hSw) q0; have z1 := pw_cell_below (show Below _ _ W from hSw) q1; have z2 := pw_cell_below (show Below _ _ W from hSw) q2; have z3 := pw_cell_below (show Below _ _ W from hSw) q3; go_simp; (try with_reducible rfl)
  simp only [Act.put, List.setIfInBounds_toArray, List.set_cons_zero, List.set_cons_succ]
  refine take_ (oi := ?oi4) (i := 3) (N := some 32) (v := ?v4) ?hi4 (by kernel_rfl) (by kernel_rfl) (by kernel_rfl) ?hQ4 ?hN4 (Or.inl ⟨?hw4, ?hy4⟩) hHeld ?rest4
  case hi4 => simp only [List.getElem?_toArray, List.getElem?_cons_zero, List.getElem?_cons_succ]; rfl
  case hQ4 => exact fun _ _ _ h => h
  case hN4 => rfl
  case hw4 => rfl
  case hy4 => intro W hSw; have z0 := pw_cell_below (show Below _ _ W from hSw) q0; have z1 := pw_cell_below (show Below _ _ W from hSw) q1; have z2 := pw_cell_below (show Below _ _ W from hSw) q2; have z3 := pw_cell_below (show Below _ _ W from hSw) q3; go_simp; (try with_reducible rfl)
  simp only [Act.put, List.setIfInBounds_toArray, List.set_cons_zero, List.set_cons_succ]
  refine take_ (oi := ?oi5) (i := 4) (N := some 33) (v := ?v5) ?hi5 (by kernel_rfl) (by kernel_rfl) (by kernel_rfl) ?hQ5 ?hN5 (Or.inl ⟨?hw5, ?hy5⟩) hHeld ?rest5
  case hi5 => simp only [List.getElem?_toArray, List.getElem?_cons_zero, List.getElem?_cons_succ]; rfl
  case hQ5 => exact fun _ _ _ h => h
  case hN5 => rfl
  case hw5 => rfl
  case hy5 => intro W hSw; have z0 := pw_cell_below (show Below _ _ W from hSw) q0; have z1 := pw_cell_below (show Below _ _ W from hSw) q1; have z2 := pw_cell_below (show Below _ _ W from hSw) q2; have z3 := pw_cell_below (show Below _ _ W from hSw) q3; go_simp; (try with_reducible rfl)
  simp only [Act.put, List.setIfInBounds_toArray, List.set_cons_zero, List.set_cons_succ]
  refine take_ (oi := ?oi6) (i := 5) (N := some 34) (v := ?v6) ?hi6 (by kernel_rfl) (by kernel_rfl) (by kernel_rfl) ?hQ6 ?hN6 (Or.inl ⟨?hw6, ?hy6⟩) hHeld ?rest6
  case hi6 => simp only [List.getElem?_toArray, List.getElem?_cons_zero, List.getElem?_cons_succ]; rfl
  case hQ6 => exact fun _ _ _ h => h
  case hN6 => rfl
  case hw6 => rfl
  case hy6 => intro W hSw; have z0 := pw_cell_below (show Below _ _ W from hSw) q0; have z1 := pw_cell_below (show Below _ _ W from hSw) q1; have z2 := pw_cell_below (show Below _ _ W from hSw) q2; have z3 := pw_cell_below (show Below _ _ W from hSw) q3; go_simp; (try with_reducible rfl)
  simp only [Act.put, List.setIfInBounds_toArray, List.set_cons_zero, List.set_cons_succ]
  refine take_ (oi := ?oi7) (i := 7) (N := some 36) (v := ?v7) ?hi7 (by kernel_rfl) (by kernel_rfl) (by kernel_rfl) ?hQ7 ?hN7 (Or.inl ⟨?hw7, ?hy7⟩) hHeld ?rest7
  case hi7 => simp only [List.getElem?_toArray, List.getElem?_cons_zero, List.getElem?_cons_succ]; rfl
  case hQ7 => exact fun _ _ _ h => h
  case hN7 => rfl
  case hw7 => rfl
  case hy7 => intro W hSw; have z0 := pw_cell_below (show Below _ _ W from hSw) q0; have z1 := pw_cell_below (show Below _ _ W from hSw) q1; have z2 := pw_cell_below (show Below _ _ W from hSw) q2; have z3 := pw_cell_below (show Below _ _ W from hSw) q3; go_simp; (try with_reducible rfl)
  simp only [Act.put, List.setIfInBounds_toArray, List.set_cons_zero, List.set_cons_succ]
  refine wpAnyH_ready (rs := [6, 8, 10, 11]) (by kernel_rfl) (by simp) ?_
  refine AllReadyH.cons (o := ?oi8) ?hi8 (fun K hK => ?step8) ?more8
  case hi8 => simp only [List.getElem?_toArray, List.getElem?_cons_zero, List.getElem?_cons_succ]; rfl
  case step8 =>
    refine goes_ (N := some 35) Tryz.func5 (by kernel_rfl) rfl #[.float .f64 a0, .float .f64 a1, .float .f64 wd, .float .f64 hg] (by rfl) rfl rfl (by (try simp only [List.map_toArray, List.map_cons, List.map_nil]); rfl) ?_
    refine (HRc.out _).mono ?_
    rintro e Z1 ⟨g, gA, rfl, fg, fA, hb⟩
    refine ⟨_, rfl, ?_⟩
    refine hK.out _ _ (below_step hHeld hb) (fun hHeld => ?_)
    clear hK K hb
    simp only [Act.put, List.setIfInBounds_toArray, List.set_cons_zero, List.set_cons_succ]
    refine wpAnyH_ready (rs := [8, 10, 11]) (by kernel_rfl) (by simp) ?_
    refine AllReadyH.cons (o := ?oi9) ?hi9 (fun K hK => ?step9) ?more9
    case hi9 => simp only [List.getElem?_toArray, List.getElem?_cons_zero, List.getElem?_cons_succ]; rfl
    case step9 =>
      go_simp
      have lf8 := hHeld.size
      replace fg := blk_up fg (.cells #[.float .f64 p0, .float .f64 p1] 24)
      replace fA := blk_up fA (.cells #[.float .f64 p0, .float .f64 p1] 24)
      have f8 := heap_alloc_new Z1 (.cells #[.float .f64 p0, .float .f64 p1] 24)
      refine hK.out _ _ (below_alloc hHeld _) (fun hHeld => ?_)
      clear hK K
      (try simp only [Act.put, List.setIfInBounds_toArray, List.set_cons_zero, List.set_cons_succ])
      generalize Z1.alloc (.cells #[.float .f64 p0, .float .f64 p1] 24) = Z2 at *
      generalize Z1.heap.size = b8 at *
      refine take_ (oi := ?oi10) (i := 9) (N := some 38) (v := ?v10) ?hi10 (by kernel_rfl) (by kernel_rfl) (by kernel_rfl) ?hQ10 ?hN10 (Or.inl ⟨?hw10, ?hy10⟩) hHeld ?rest10
      case hi10 => simp only [List.getElem?_toArray, List.getElem?_cons_zero, List.getElem?_cons_succ]; rfl
      case hQ10 => exact fun _ _ _ h => h
      case hN10 => rfl
      case hw10 => rfl
      case hy10 => intro W hSw; have z0 := pw_cell_below (show Below _ _ W from hSw) q0; have z1 := pw_cell_below (show Below _ _ W from hSw) q1; have z2 := pw_cell_below (show Below _ _ W from hSw) q2; have z3 := pw_cell_below (show Below _ _ W from hSw) q3; go_simp; (try with_reducible rfl)
      simp only [Act.put, List.setIfInBounds_toArray, List.set_cons_zero, List.set_cons_succ]
      refine wpAnyH_ready (rs := [10, 11]) (by kernel_rfl) (by simp) ?_
      refine AllReadyH.cons (o := ?oi11) ?hi11 (fun K hK => ?step11) ?more11
      case hi11 => simp only [List.getElem?_toArray, List.getElem?_cons_zero, List.getElem?_cons_succ]; rfl
      case step11 =>
        go_simp
        have lf10 := hHeld.size
        replace fg := blk_up fg (.cells #[.int .i64 0, .int .u32 0, .slice none 0 0, .slice none 0 0, .slice none 0 0, .slice none 0 0] 32)
        replace fA := blk_up fA (.cells #[.int .i64 0, .int .u32 0, .slice none 0 0, .slice none 0 0, .slice none 0 0, .slice none 0 0] 32)
        replace f8 := blk_up f8 (.cells #[.int .i64 0, .int .u32 0, .slice none 0 0, .slice none 0 0, .slice none 0 0, .slice none 0 0] 32)
        have f10 := heap_alloc_new Z2 (.cells #[.int .i64 0, .int .u32 0, .slice none 0 0, .slice none 0 0, .slice none 0 0, .slice none 0 0] 32)
        refine hK.out _ _ (below_alloc hHeld _) (fun hHeld => ?_)
        clear hK K
        (try simp only [Act.put, List.setIfInBounds_toArray, List.set_cons_zero, List.set_cons_succ])
        generalize Z2.alloc (.cells #[.int .i64 0, .int .u32 0, .slice none 0 0, .slice none 0 0, .slice none 0 0, .slice none 0 0] 32) = Z3 at *
        generalize Z2.heap.size = i10 at *
        refine wpAnyH_ready (rs := [11]) (by kernel_rfl) (by simp) ?_
        refine AllReadyH.cons (o := ?oi12) ?hi12 (fun K hK => ?step12) AllReadyH.nil
        case hi12 => simp only [List.getElem?_toArray, List.getElem?_cons_zero, List.getElem?_cons_succ]; rfl
        go_simp
        have lf11 := hHeld.size
        have ne := Nat.ne_of_lt (blk_lt f10)
        replace fg := blk_up fg (.cells #[.int .i64 0, .int .u32 0, .slice none 0 0, .slice none 0 0, .slice none 0 0, .slice none 0 0] 32)
        replace fA := blk_up fA (.cells #[.int .i64 0, .int .u32 0, .slice none 0 0, .slice none 0 0, .slice none 0 0, .slice none 0 0] 32)
        replace f8 := blk_up f8 (.cells #[.int .i64 0, .int .u32 0, .slice none 0 0, .slice none 0 0, .slice none 0 0, .slice none 0 0] 32)
        replace f10 := blk_up f10 (.cells #[.int .i64 0, .int .u32 0, .slice none 0 0, .slice none 0 0, .slice none 0 0, .slice none 0 0] 32)
        have f11 := heap_alloc_new Z3 (.cells #[.int .i64 0, .int .u32 0, .slice none 0 0, .slice none 0 0, .slice none 0 0, .slice none 0 0] 32)
        refine hK.out _ _ (below_alloc hHeld _) (fun hHeld => ?_)
        clear hK K
        (try simp only [Act.put, List.setIfInBounds_toArray, List.set_cons_zero, List.set_cons_succ])
        generalize Z3.alloc (.cells #[.int .i64 0, .int .u32 0, .slice none 0 0, .slice none 0 0, .slice none 0 0, .slice none 0 0] 32) = Z4 at *
        generalize Z3.heap.size = i11 at *
        refine wpAnyH_ready (rs := [12]) (by kernel_rfl) (by simp) ?_
        refine AllReadyH.cons (o := ?oi13) ?hi13 (fun K hK => ?step13) AllReadyH.nil
        case hi13 => simp only [List.getElem?_toArray, List.getElem?_cons_zero, List.getElem?_cons_succ]; rfl
        obtain ⟨s0, s1, s2, s3, s4, s5⟩ := cells6 f10
        have s6 := frozen_of_row _ _ 0 _ _ f10
        have s7 := frozen_of_row _ _ 1 _ _ f10
        have s8 := frozen_of_row _ _ 2 _ _ f10
        have s9 := frozen_of_row _ _ 3 _ _ f10
        have s10 := frozen_of_row _ _ 4 _ _ f10
        have s11 := frozen_of_row _ _ 5 _ _ f10
        go_simp
        clear s0 s1 s2 s3 s4 s5 s6 s7 s8 s9 s10 s11
        refine hK.out _ _ (below_set6 hHeld lf10 (.int .i64 3) (.int .u32 0) (.slice none 0 0) (.slice (some ⟨g, 0, none⟩) 1 1) (.slice none 0 0) (.slice none 0 0)) (fun hHeld => ?_)
        clear hK K
        replace fg := (set6_ne (ne_of_obj fg f10 (by simp)) (.int .i64 3) (.int .u32 0) (.slice none 0 0) (.slice (some ⟨g, 0, none⟩) 1 1) (.slice none 0 0) (.slice none 0 0)).trans fg
        replace fA := (set6_ne (ne_of_obj fA f10 (by simp)) (.int .i64 3) (.int .u32 0) (.slice none 0 0) (.slice (some ⟨g, 0, none⟩) 1 1) (.slice none 0 0) (.slice none 0 0)).trans fA
        replace f8 := (set6_ne (ne_of_obj f8 f10 (by simp)) (.int .i64 3) (.int .u32 0) (.slice none 0 0) (.slice (some ⟨g, 0, none⟩) 1 1) (.slice none 0 0) (.slice none 0 0)).trans f8
        replace f11 := (set6_ne (Ne.symm ne) (.int .i64 3) (.int .u32 0) (.slice none 0 0) (.slice (some ⟨g, 0, none⟩) 1 1) (.slice none 0 0) (.slice none 0 0)).trans f11
        replace f10 := set6 f10 (.int .i64 3) (.int .u32 0) (.slice none 0 0) (.slice (some ⟨g, 0, none⟩) 1 1) (.slice none 0 0) (.slice none 0 0)
        generalize ((((((Z4.setCell ⟨i10, 0, none⟩ (.int .i64 3)).setCell ⟨i10, 1, none⟩ (.int .u32 0)).setCell ⟨i10, 2, none⟩ (.slice none 0 0)).setCell ⟨i10, 3, none⟩ (.slice (some ⟨g, 0, none⟩) 1 1)).setCell ⟨i10, 4, none⟩ (.slice none 0 0)).setCell ⟨i10, 5, none⟩ (.slice none 0 0)) = Z5 at *
        refine wpAnyH_ready (rs := [13]) (by kernel_rfl) (by simp) ?_
        refine AllReadyH.cons (o := ?oi14) ?hi14 (fun K hK => ?step14) AllReadyH.nil
        case hi14 => simp only [List.getElem?_toArray, List.getElem?_cons_zero, List.getElem?_cons_succ]; rfl
        obtain ⟨s0, s1, s2, s3, s4, s5⟩ := cells6 f11
        have s6 := frozen_of_row _ _ 0 _ _ f11
        have s7 := frozen_of_row _ _ 1 _ _ f11
        have s8 := frozen_of_row _ _ 2 _ _ f11
        have s9 := frozen_of_row _ _ 3 _ _ f11
        have s10 := frozen_of_row _ _ 4 _ _ f11
        have s11 := frozen_of_row _ _ 5 _ _ f11
        go_simp
        clear s0 s1 s2 s3 s4 s5 s6 s7 s8 s9 s10 s11
        refine hK.out _ _ (below_set6 hHeld lf11 (.int .i64 1) (.int .u32 0) (.slice (some ⟨b8, 0, none⟩) 1 1) (.slice none 0 0) (.slice none 0 0) (.slice none 0 0)) (fun hHeld => ?_)
        clear hK K
        replace fg := (set6_ne (ne_of_obj fg f11 (by simp)) (.int .i64 1) (.int .u32 0) (.slice (some ⟨b8, 0, none⟩) 1 1) (.slice none 0 0) (.slice none 0 0) (.slice none 0 0)).trans fg
        replace fA := (set6_ne (ne_of_obj fA f11 (by simp)) (.int .i64 1) (.int .u32 0) (.slice (some ⟨b8, 0, none⟩) 1 1) (.slice none 0 0) (.slice none 0 0) (.slice none 0 0)).trans fA
        replace f8 := (set6_ne (ne_of_obj f8 f11 (by simp)) (.int .i64 1) (.int .u32 0) (.slice (some ⟨b8, 0, none⟩) 1 1) (.slice none 0 0) (.slice none 0 0) (.slice none 0 0)).trans f8
        replace f10 := (set6_ne (ne) (.int .i64 1) (.int .u32 0) (.slice (some ⟨b8, 0, none⟩) 1 1) (.slice none 0 0) (.slice none 0 0) (.slice none 0 0)).trans f10
        replace f11 := set6 f11 (.int .i64 1) (.int .u32 0) (.slice (some ⟨b8, 0, none⟩) 1 1) (.slice none 0 0) (.slice none 0 0) (.slice none 0 0)
        generalize ((((((Z5.setCell ⟨i11, 0, none⟩ (.int .i64 1)).setCell ⟨i11, 1, none⟩ (.int .u32 0)).setCell ⟨i11, 2, none⟩ (.slice (some ⟨b8, 0, none⟩) 1 1)).setCell ⟨i11, 3, none⟩ (.slice none 0 0)).setCell ⟨i11, 4, none⟩ (.slice none 0 0)).setCell ⟨i11, 5, none⟩ (.slice none 0 0)) = Z6 at *
        refine wpAnyH_done (by kernel_rfl) ?_ _
        refine NoPanic.normal ?_
        show K _ _
        exact REST f10 f11 f8 fg fA hHeld
      refine AllReadyH.cons (o := ?oi15) ?hi15 (fun K hK => ?step15) AllReadyH.nil
      case hi15 => simp only [List.getElem?_toArray, List.getElem?_cons_zero, List.getElem?_cons_succ]; rfl
      go_simp
      have lf11 := hHeld.size
      replace fg := blk_up fg (.cells #[.int .i64 0, .int .u32 0, .slice none 0 0, .slice none 0 0, .slice none 0 0, .slice none 0 0] 32)
      replace fA := blk_up fA (.cells #[.int .i64 0, .int .u32 0, .slice none 0 0, .slice none 0 0, .slice none 0 0, .slice none 0 0] 32)
      replace f8 := blk_up f8 (.cells #[.int .i64 0, .int .u32 0, .slice none 0 0, .slice none 0 0, .slice none 0 0, .slice none 0 0] 32)
      have f11 := heap_alloc_new Z2 (.cells #[.int .i64 0, .int .u32 0, .slice none 0 0, .slice none 0 0, .slice none 0 0, .slice none 0 0] 32)
      refine hK.out _ _ (below_alloc hHeld _) (fun hHeld => ?_)
      clear hK K
      (try simp only [Act.put, List.setIfInBounds_toArray, List.set_cons_zero, List.set_cons_succ])
      generalize Z2.alloc (.cells #[.int .i64 0, .int .u32 0, .slice none 0 0, .slice none 0 0, .slice none 0 0, .slice none 0 0] 32) = Z7 at *
      generalize Z2.heap.size = i11 at *
      refine wpAnyH_ready (rs := [10]) (by kernel_rfl) (by simp) ?_
      refine AllReadyH.cons (o := ?oi16) ?hi16 (fun K hK => ?step16) AllReadyH.nil
      case hi16 => simp only [List.getElem?_toArray, List.getElem?_cons_zero, List.getElem?_cons_succ]; rfl
      go_simp
      have lf10 := hHeld.size
      have ne := Nat.ne_of_gt (blk_lt f11)
      replace fg := blk_up fg (.cells #[.int .i64 0, .int .u32 0, .slice none 0 0, .slice none 0 0, .slice none 0 0, .slice none 0 0] 32)
      replace fA := blk_up fA (.cells #[.int .i64 0, .int .u32 0, .slice none 0 0, .slice none 0 0, .slice none 0 0, .slice none 0 0] 32)
      replace f8 := blk_up f8 (.cells #[.int .i64 0, .int .u32 0, .slice none 0 0, .slice none 0 0, .slice none 0 0, .slice none 0 0] 32)
      replace f11 := blk_up f11 (.cells #[.int .i64 0, .int .u32 0, .slice none 0 0, .slice none 0 0, .slice none 0 0, .slice none 0 0] 32)
      have f10 := heap_alloc_new Z7 (.cells #[.int .i64 0, .int .u32 0, .slice none 0 0, .slice none 0 0, .slice none 0 0, .slice none 0 0] 32)
      refine hK.out _ _ (below_alloc hHeld _) (fun hHeld => ?_)
      clear hK K
      (try simp only [Act.put, List.setIfInBounds_toArray, List.set_cons_zero, List.set_cons_succ])
      generalize Z7.alloc (.cells #[.int .i64 0, .int .u32 0, .slice none 0 0, .slice none 0 0, .slice none 0 0, .slice none 0 0] 32) = Z8 at *
      generalize Z7.heap.size = i10 at *
      refine wpAnyH_ready (rs := [12]) (by kernel_rfl) (by simp) ?_
      refine AllReadyH.cons (o := ?oi17) ?hi17 (fun K hK => ?step17) AllReadyH.nil
      case hi17 => simp only [List.getElem?_toArray, List.getElem?_cons_zero, List.getElem?_cons_succ]; rfl
      obtain ⟨s0, s1, s2, s3, s4, s5⟩ := cells6 f10
      have s6 := frozen_of_row _ _ 0 _ _ f10
      have s7 := frozen_of_row _ _ 1 _ _ f10
      have s8 := frozen_of_row _ _ 2 _ _ f10
      have s9 := frozen_of_row _ _ 3 _ _ f10
      have s10 := frozen_of_row _ _ 4 _ _ f10
      have s11 := frozen_of_row _ _ 5 _ _ f10
      go_simp
      clear s0 s1 s2 s3 s4 s5 s6 s7 s8 s9 s10 s11
      refine hK.out _ _ (below_set6 hHeld lf10 (.int .i64 3) (.int .u32 0) (.slice none 0 0) (.slice (some ⟨g, 0, none⟩) 1 1) (.slice none 0 0) (.slice none 0 0)) (fun hHeld => ?_)
      clear hK K
      replace fg := (set6_ne (ne_of_obj fg f10 (by simp)) (.int .i64 3) (.int .u32 0) (.slice none 0 0) (.slice (some ⟨g, 0, none⟩) 1 1) (.slice none 0 0) (.slice none 0 0)).trans fg
      replace fA := (set6_ne (ne_of_obj fA f10 (by simp)) (.int .i64 3) (.int .u32 0) (.slice none 0 0) (.slice (some ⟨g, 0, none⟩) 1 1) (.slice none 0 0) (.slice none 0 0)).trans fA
      replace f8 := (set6_ne (ne_of_obj f8 f10 (by simp)) (.int .i64 3) (.int .u32 0) (.slice none 0 0) (.slice (some ⟨g, 0, none⟩) 1 1) (.slice none 0 0) (.slice none 0 0)).trans f8
      replace f11 := (set6_ne (Ne.symm ne) (.int .i64 3) (.int .u32 0) (.slice none 0 0) (.slice (some ⟨g, 0, none⟩) 1 1) (.slice none 0 0) (.slice none 0 0)).trans f11
      replace f10 := set6 f10 (.int .i64 3) (.int .u32 0) (.slice none 0 0) (.slice (some ⟨g, 0, none⟩) 1 1) (.slice none 0 0) (.slice none 0 0)
      generalize ((((((Z8.setCell ⟨i10, 0, none⟩ (.int .i64 3)).setCell ⟨i10, 1, none⟩ (.int .u32 0)).setCell ⟨i10, 2, none⟩ (.slice none 0 0)).setCell ⟨i10, 3, none⟩ (.slice (some ⟨g, 0, none⟩) 1 1)).setCell ⟨i10, 4, none⟩ (.slice none 0 0)).setCell ⟨i10, 5, none⟩ (.slice none 0 0)) = Z9 at *
      refine wpAnyH_ready (rs := [13]) (by kernel_rfl) (by simp) ?_
      refine AllReadyH.cons (o := ?oi18) ?hi18 (fun K hK => ?step18) AllReadyH.nil
      case hi18 => simp only [List.getElem?_toArray, List.getElem?_cons_zero, List.getElem?_cons_succ]; rfl
      obtain ⟨s0, s1, s2, s3, s4, s5⟩ := cells6 f11
      have s6 := frozen_of_row _ _ 0 _ _ f11
      have s7 := frozen_of_row _ _ 1 _ _ f11
      have s8 := frozen_of_row _ _ 2 _ _ f11
      have s9 := frozen_of_row _ _ 3 _ _ f11
      have s10 := frozen_of_row _ _ 4 _ _ f11
      have s11 := frozen_of_row _ _ 5 _ _ f11
      go_simp
      clear s0 s1 s2 s3 s4 s5 s6 s7 s8 s9 s10 s11
      refine hK.out _ _ (below_set6 hHeld lf11 (.int .i64 1) (.int .u32 0) (.slice (some ⟨b8, 0, none⟩) 1 1) (.slice none 0 0) (.slice none 0 0) (.slice none 0 0)) (fun hHeld => ?_)
      clear hK K
      replace fg := (set6_ne (ne_of_obj fg f11 (by simp)) (.int .i64 1) (.int .u32 0) (.slice (some ⟨b8, 0, none⟩) 1 1) (.slice none 0 0) (.slice none 0 0) (.slice none 0 0)).trans fg
      replace fA := (set6_ne (ne_of_obj fA f11 (by simp)) (.int .i64 1) (.int .u32 0) (.slice (some ⟨b8, 0, none⟩) 1 1) (.slice none 0 0) (.slice none 0 0) (.slice none 0 0)).trans fA
      replace f8 := (set6_ne (ne_of_obj f8 f11 (by simp)) (.int .i64 1) (.int .u32 0) (.slice (some ⟨b8, 0, none⟩) 1 1) (.slice none 0 0) (.slice none 0 0) (.slice none 0 0)).trans f8
      replace f10 := (set6_ne (ne) (.int .i64 1) (.int .u32 0) (.slice (some ⟨b8, 0, none⟩) 1 1) (.slice none 0 0) (.slice none 0 0) (.slice none 0 0)).trans f10
      replace f11 := set6 f11 (.int .i64 1) (.int .u32 0) (.slice (some ⟨b8, 0, none⟩) 1 1) (.slice none 0 0) (.slice none 0 0) (.slice none 0 0)
      generalize ((((((Z9.setCell ⟨i11, 0, none⟩ (.int .i64 1)).setCell ⟨i11, 1, none⟩ (.int .u32 0)).setCell ⟨i11, 2, none⟩ (.slice (some ⟨b8, 0, none⟩) 1 1)).setCell ⟨i11, 3, none⟩ (.slice none 0 0)).setCell ⟨i11, 4, none⟩ (.slice none 0 0)).setCell ⟨i11, 5, none⟩ (.slice none 0 0)) = Z10 at *
      refine wpAnyH_done (by kernel_rfl) ?_ _
      refine NoPanic.normal ?_
      show K _ _
      exact REST f10 f11 f8 fg fA hHeld
    refine AllReadyH.cons (o := ?oi19) ?hi19 (fun K hK => ?step19) ?more19
    case hi19 => simp only [List.getElem?_toArray, List.getElem?_cons_zero, List.getElem?_cons_succ]; rfl
    case step19 =>
      go_simp
      have lf10 := hHeld.size
      replace fg := blk_up fg (.cells #[.int .i64 0, .int .u32 0, .slice none 0 0, .slice none 0 0, .slice none 0 0, .slice none 0 0] 32)
      replace fA := blk_up fA (.cells #[.int .i64 0, .int .u32 0, .slice none 0 0, .slice none 0 0, .slice none 0 0, .slice none 0 0] 32)
      have f10 := heap_alloc_new Z1 (.cells #[.int .i64 0, .int .u32 0, .slice none 0 0, .slice none 0 0, .slice none 0 0, .slice none 0 0] 32)
      refine hK.out _ _ (below_alloc hHeld _) (fun hHeld => ?_)
      clear hK K
      (try simp only [Act.put, List.setIfInBounds_toArray, List.set_cons_zero, List.set_cons_succ])
      generalize Z1.alloc (.cells #[.int .i64 0, .int .u32 0, .slice none 0 0, .slice none 0 0, .slice none 0 0, .slice none 0 0] 32) = Z11 at *
      generalize Z1.heap.size = i10 at *
      refine wpAnyH_ready (rs := [8, 11]) (by kernel_rfl) (by simp) ?_
      refine AllReadyH.cons (o := ?oi20) ?hi20 (fun K hK => ?step20) ?more20
      case hi20 => simp only [List.getElem?_toArray, List.getElem?_cons_zero, List.getElem?_cons_succ]; rfl
      case step20 =>
        go_simp
        have lf8 := hHeld.size
        replace fg := blk_up fg (.cells #[.float .f64 p0, .float .f64 p1] 24)
        replace fA := blk_up fA (.cells #[.float .f64 p0, .float .f64 p1] 24)
        replace f10 := blk_up f10 (.cells #[.float .f64 p0, .float .f64 p1] 24)
        have f8 := heap_alloc_new Z11 (.cells #[.float .f64 p0, .float .f64 p1] 24)
        refine hK.out _ _ (below_alloc hHeld _) (fun hHeld => ?_)
        clear hK K
        (try simp only [Act.put, List.setIfInBounds_toArray, List.set_cons_zero, List.set_cons_succ])
        generalize Z11.alloc (.cells #[.float .f64 p0, .float .f64 p1] 24) = Z12 at *
        generalize Z11.heap.size = b8 at *
        refine take_ (oi := ?oi21) (i := 9) (N := some 38) (v := ?v21) ?hi21 (by kernel_rfl) (by kernel_rfl) (by kernel_rfl) ?hQ21 ?hN21 (Or.inl ⟨?hw21, ?hy21⟩) hHeld ?rest21
        case hi21 => simp only [List.getElem?_toArray, List.getElem?_cons_zero, List.getElem?_cons_succ]; rfl
        case hQ21 => exact fun _ _ _ h => h
        case hN21 => rfl
        case hw21 => rfl
        case hy21 => intro W hSw; have z0 := pw_cell_below (show Below _ _ W from hSw) q0; have z1 := pw_cell_below (show Below _ _ W from hSw) q1; have z2 := pw_cell_below (show Below _ _ W from hSw) q2; have z3 := pw_cell_below (show Below _ _ W from hSw) q3; go_simp; (try with_reducible rfl)
        simp only [Act.put, List.setIfInBounds_toArray, List.set_cons_zero, List.set_cons_succ]
        refine wpAnyH_ready (rs := [11]) (by kernel_rfl) (by simp) ?_
        refine AllReadyH.cons (o := ?oi22) ?hi22 (fun K hK => ?step22) AllReadyH.nil
        case hi22 => simp only [List.getElem?_toArray, List.getElem?_cons_zero, List.getElem?_cons_succ]; rfl
        go_simp
        have lf11 := hHeld.size
        have ne := Nat.ne_of_lt (blk_lt f10)
        replace fg := blk_up fg (.cells #[.int .i64 0, .int .u32 0, .slice none 0 0, .slice none 0 0, .slice none 0 0, .slice none 0 0] 32)
        replace fA := blk_up fA (.cells #[.int .i64 0, .int .u32 0, .slice none 0 0, .slice none 0 0, .slice none 0 0, .slice none 0 0] 32)
        replace f10 := blk_up f10 (.cells #[.int .i64 0, .int .u32 0, .slice none 0 0, .slice none 0 0, .slice none 0 0, .slice none 0 0] 32)
        replace f8 := blk_up f8 (.cells #[.int .i64 0, .int .u32 0, .slice none 0 0, .slice none 0 0, .slice none 0 0, .slice none 0 0] 32)
        have f11 := heap_alloc_new Z12 (.cells #[.int .i64 0, .int .u32 0, .slice none 0 0, .slice none 0 0, .slice none 0 0, .slice none 0 0] 32)
        refine hK.out _ _ (below_alloc hHeld _) (fun hHeld => ?_)
        clear hK K
        (try simp only [Act.put, List.setIfInBounds_toArray, List.set_cons_zero, List.set_cons_succ])
        generalize Z12.alloc (.cells #[.int .i64 0, .int .u32 0, .slice none 0 0, .slice none 0 0, .slice none 0 0, .slice none 0 0] 32) = Z13 at *
        generalize Z12.heap.size = i11 at *
        refine wpAnyH_ready (rs := [12]) (by kernel_rfl) (by simp) ?_
        refine AllReadyH.cons (o := ?oi23) ?hi23 (fun K hK => ?step23) AllReadyH.nil
        case hi23 => simp only [List.getElem?_toArray, List.getElem?_cons_zero, List.getElem?_cons_succ]; rfl
        obtain ⟨s0, s1, s2, s3, s4, s5⟩ := cells6 f10
        have s6 := frozen_of_row _ _ 0 _ _ f10
        have s7 := frozen_of_row _ _ 1 _ _ f10
        have s8 := frozen_of_row _ _ 2 _ _ f10
        have s9 := frozen_of_row _ _ 3 _ _ f10
        have s10 := frozen_of_row _ _ 4 _ _ f10
        have s11 := frozen_of_row _ _ 5 _ _ f10
        go_simp
        clear s0 s1 s2 s3 s4 s5 s6 s7 s8 s9 s10 s11
        refine hK.out _ _ (below_set6 hHeld lf10 (.int .i64 3) (.int .u32 0) (.slice none 0 0) (.slice (some ⟨g, 0, none⟩) 1 1) (.slice none 0 0) (.slice none 0 0)) (fun hHeld => ?_)
        clear hK K
        replace fg := (set6_ne (ne_of_obj fg f10 (by simp)) (.int .i64 3) (.int .u32 0) (.slice none 0 0) (.slice (some ⟨g, 0, none⟩) 1 1) (.slice none 0 0) (.slice none 0 0)).trans fg
        replace fA := (set6_ne (ne_of_obj fA f10 (by simp)) (.int .i64 3) (.int .u32 0) (.slice none 0 0) (.slice (some ⟨g, 0, none⟩) 1 1) (.slice none 0 0) (.slice none 0 0)).trans fA
        replace f8 := (set6_ne (ne_of_obj f8 f10 (by simp)) (.int .i64 3) (.int .u32 0) (.slice none 0 0) (.slice (some ⟨g, 0, none⟩) 1 1) (.slice none 0 0) (.slice none 0 0)).trans f8
        replace f11 := (set6_ne (Ne.symm ne) (.int .i64 3) (.int .u32 0) (.slice none 0 0) (.slice (some ⟨g, 0, none⟩) 1 1) (.slice none 0 0) (.slice none 0 0)).trans f11
        replace f10 := set6 f10 (.int .i64 3) (.int .u32 0) (.slice none 0 0) (.slice (some ⟨g, 0, none⟩) 1 1) (.slice none 0 0) (.slice none 0 0)
        generalize ((((((Z13.setCell ⟨i10, 0, none⟩ (.int .i64 3)).setCell ⟨i10, 1, none⟩ (.int .u32 0)).setCell ⟨i10, 2, none⟩ (.slice none 0 0)).setCell ⟨i10, 3, none⟩ (.slice (some ⟨g, 0, none⟩) 1 1)).setCell ⟨i10, 4, none⟩ (.slice none 0 0)).setCell ⟨i10, 5, none⟩ (.slice none 0 0)) = Z14 at *
        refine wpAnyH_ready (rs := [13]) (by kernel_rfl) (by simp) ?_
        refine AllReadyH.cons (o := ?oi24) ?hi24 (fun K hK => ?step24) AllReadyH.nil
        case hi24 => simp only [List.getElem?_toArray, List.getElem?_cons_zero, List.getElem?_cons_succ]; rfl
        obtain ⟨s0, s1, s2, s3, s4, s5⟩ := cells6 f11
        have s6 := frozen_of_row _ _ 0 _ _ f11
        have s7 := frozen_of_row _ _ 1 _ _ f11
        have s8 := frozen_of_row _ _ 2 _ _ f11
        have s9 := frozen_of_row _ _ 3 _ _ f11
        have s10 := frozen_of_row _ _ 4 _ _ f11
        have s11 := frozen_of_row _ _ 5 _ _ f11
        go_simp
        clear s0 s1 s2 s3 s4 s5 s6 s7 s8 s9 s10 s11
        refine hK.out _ _ (below_set6 hHeld lf11 (.int .i64 1) (.int .u32 0) (.slice (some ⟨b8, 0, none⟩) 1 1) (.slice none 0 0) (.slice none 0 0) (.slice none 0 0)) (fun hHeld => ?_)
        clear hK K
        replace fg := (set6_ne (ne_of_obj fg f11 (by simp)) (.int .i64 1) (.int .u32 0) (.slice (some ⟨b8, 0, none⟩) 1 1) (.slice none 0 0) (.slice none 0 0) (.slice none 0 0)).trans fg
        replace fA := (set6_ne (ne_of_obj fA f11 (by simp)) (.int .i64 1) (.int .u32 0) (.slice (some ⟨b8, 0, none⟩) 1 1) (.slice none 0 0) (.slice none 0 0) (.slice none 0 0)).trans fA
        replace f10 := (set6_ne (ne) (.int .i64 1) (.int .u32 0) (.slice (some ⟨b8, 0, none⟩) 1 1) (.slice none 0 0) (.slice none 0 0) (.slice none 0 0)).trans f10
        replace f8 := (set6_ne (ne_of_obj f8 f11 (by simp)) (.int .i64 1) (.int .u32 0) (.slice (some ⟨b8, 0, none⟩) 1 1) (.slice none 0 0) (.slice none 0 0) (.slice none 0 0)).trans f8
        replace f11 := set6 f11 (.int .i64 1) (.int .u32 0) (.slice (some ⟨b8, 0, none⟩) 1 1) (.slice none 0 0) (.slice none 0 0) (.slice none 0 0)
        generalize ((((((Z14.setCell ⟨i11, 0, none⟩ (.int .i64 1)).setCell ⟨i11, 1, none⟩ (.int .u32 0)).setCell ⟨i11, 2, none⟩ (.slice (some ⟨b8, 0, none⟩) 1 1)).setCell ⟨i11, 3, none⟩ (.slice none 0 0)).setCell ⟨i11, 4, none⟩ (.slice none 0 0)).setCell ⟨i11, 5, none⟩ (.slice none 0 0)) = Z15 at *
        refine wpAnyH_done (by kernel_rfl) ?_ _
        refine NoPanic.normal ?_
        show K _ _
        exact REST f10 f11 f8 fg fA hHeld
      refine AllReadyH.cons (o := ?oi25) ?hi25 (fun K hK => ?step25) AllReadyH.nil
      case hi25 => simp only [List.getElem?_toArray, List.getElem?_cons_zero, List.getElem?_cons_succ]; rfl
      go_simp
      have lf11 := hHeld.size
      have ne := Nat.ne_of_lt (blk_lt f10)
      replace fg := blk_up fg (.cells #[.int .i64 0, .int .u32 0, .slice none 0 0, .slice none 0 0, .slice none 0 0, .slice none 0 0] 32)
      replace fA := blk_up fA (.cells #[.int .i64 0, .int .u32 0, .slice none 0 0, .slice none 0 0, .slice none 0 0, .slice none 0 0] 32)
      replace f10 := blk_up f10 (.cells #[.int .i64 0, .int .u32 0, .slice none 0 0, .slice none 0 0, .slice none 0 0, .slice none 0 0] 32)
      have f11 := heap_alloc_new Z11 (.cells #[.int .i64 0, .int .u32 0, .slice none 0 0, .slice none 0 0, .slice none 0 0, .slice none 0 0] 32)
      refine hK.out _ _ (below_alloc hHeld _) (fun hHeld => ?_)
      clear hK K
      (try simp only [Act.put, List.setIfInBounds_toArray, List.set_cons_zero, List.set_cons_succ])
      generalize Z11.alloc (.cells #[.int .i64 0, .int .u32 0, .slice none 0 0, .slice none 0 0, .slice none 0 0, .slice none 0 0] 32) = Z16 at *
      generalize Z11.heap.size = i11 at *
      refine wpAnyH_ready (rs := [8, 12]) (by kernel_rfl) (by simp) ?_
      refine AllReadyH.cons (o := ?oi26) ?hi26 (fun K hK => ?step26) ?more26
      case hi26 => simp only [List.getElem?_toArray, List.getElem?_cons_zero, List.getElem?_cons_succ]; rfl
      case step26 =>
        go_simp
        have lf8 := hHeld.size
        replace fg := blk_up fg (.cells #[.float .f64 p0, .float .f64 p1] 24)
        replace fA := blk_up fA (.cells #[.float .f64 p0, .float .f64 p1] 24)
        replace f10 := blk_up f10 (.cells #[.float .f64 p0, .float .f64 p1] 24)
        replace f11 := blk_up f11 (.cells #[.float .f64 p0, .float .f64 p1] 24)
        have f8 := heap_alloc_new Z16 (.cells #[.float .f64 p0, .float .f64 p1] 24)
        refine hK.out _ _ (below_alloc hHeld _) (fun hHeld => ?_)
        clear hK K
        (try simp only [Act.put, List.setIfInBounds_toArray, List.set_cons_zero, List.set_cons_succ])
        generalize Z16.alloc (.cells #[.float .f64 p0, .float .f64 p1] 24) = Z17 at *
        generalize Z16.heap.size = b8 at *
        refine take_ (oi := ?oi27) (i := 9) (N := some 38) (v := ?v27) ?hi27 (by kernel_rfl) (by kernel_rfl) (by kernel_rfl) ?hQ27 ?hN27 (Or.inl ⟨?hw27, ?hy27⟩) hHeld ?rest27
        case hi27 => simp only [List.getElem?_toArray, List.getElem?_cons_zero, List.getElem?_cons_succ]; rfl
        case hQ27 => exact fun _ _ _ h => h
        case hN27 => rfl
        case hw27 => rfl
        case hy27 => intro W hSw; have z0 := pw_cell_below (show Below _ _ W from hSw) q0; have z1 := pw_cell_below (show Below _ _ W from hSw) q1; have z2 := pw_cell_below (show Below _ _ W from hSw) q2; have z3 := pw_cell_below (show Below _ _ W from hSw) q3; go_simp; (try with_reducible rfl)
        simp only [Act.put, List.setIfInBounds_toArray, List.set_cons_zero, List.set_cons_succ]
        refine wpAnyH_ready (rs := [12]) (by kernel_rfl) (by simp) ?_
        refine AllReadyH.cons (o := ?oi28) ?hi28 (fun K hK => ?step28) AllReadyH.nil
        case hi28 => simp only [List.getElem?_toArray, List.getElem?_cons_zero, List.getElem?_cons_succ]; rfl
        obtain ⟨s0, s1, s2, s3, s4, s5⟩ := cells6 f10
        have s6 := frozen_of_row _ _ 0 _ _ f10
        have s7 := frozen_of_row _ _ 1 _ _ f10
        have s8 := frozen_of_row _ _ 2 _ _ f10
        have s9 := frozen_of_row _ _ 3 _ _ f10
        have s10 := frozen_of_row _ _ 4 _ _ f10
        have s11 := frozen_of_row _ _ 5 _ _ f10
        go_simp
        clear s0 s1 s2 s3 s4 s5 s6 s7 s8 s9 s10 s11
        refine hK.out _ _ (below_set6 hHeld lf10 (.int .i64 3) (.int .u32 0) (.slice none 0 0) (.slice (some ⟨g, 0, none⟩) 1 1) (.slice none 0 0) (.slice none 0 0)) (fun hHeld => ?_)
        clear hK K
        replace fg := (set6_ne (ne_of_obj fg f10 (by simp)) (.int .i64 3) (.int .u32 0) (.slice none 0 0) (.slice (some ⟨g, 0, none⟩) 1 1) (.slice none 0 0) (.slice none 0 0)).trans fg
        replace fA := (set6_ne (ne_of_obj fA f10 (by simp)) (.int .i64 3) (.int .u32 0) (.slice none 0 0) (.slice (some ⟨g, 0, none⟩) 1 1) (.slice none 0 0) (.slice none 0 0)).trans fA
        replace f11 := (set6_ne (Ne.symm ne) (.int .i64 3) (.int .u32 0) (.slice none 0 0) (.slice (some ⟨g, 0, none⟩) 1 1) (.slice none 0 0) (.slice none 0 0)).trans f11
        replace f8 := (set6_ne (ne_of_obj f8 f10 (by simp)) (.int .i64 3) (.int .u32 0) (.slice none 0 0) (.slice (some ⟨g, 0, none⟩) 1 1) (.slice none 0 0) (.slice none 0 0)).trans f8
        replace f10 := set6 f10 (.int .i64 3) (.int .u32 0) (.slice none 0 0) (.slice (some ⟨g, 0, none⟩) 1 1) (.slice none 0 0) (.slice none 0 0)
        generalize ((((((Z17.setCell ⟨i10, 0, none⟩ (.int .i64 3)).setCell ⟨i10, 1, none⟩ (.int .u32 0)).setCell ⟨i10, 2, none⟩ (.slice none 0 0)).setCell ⟨i10, 3, none⟩ (.slice (some ⟨g, 0, none⟩) 1 1)).setCell ⟨i10, 4, none⟩ (.slice none 0 0)).setCell ⟨i10, 5, none⟩ (.slice none 0 0)) = Z18 at *
        refine wpAnyH_ready (rs := [13]) (by kernel_rfl) (by simp) ?_
        refine AllReadyH.cons (o := ?oi29) ?hi29 (fun K hK => ?step29) AllReadyH.nil
        case hi29 => simp only [List.getElem?_toArray, List.getElem?_cons_zero, List.getElem?_cons_succ]; rfl
        obtain ⟨s0, s1, s2, s3, s4, s5⟩ := cells6 f11
        have s6 := frozen_of_row _ _ 0 _ _ f11
        have s7 := frozen_of_row _ _ 1 _ _ f11
        have s8 := frozen_of_row _ _ 2 _ _ f11
        have s9 := frozen_of_row _ _ 3 _ _ f11
        have s10 := frozen_of_row _ _ 4 _ _ f11
        have s11 := frozen_of_row _ _ 5 _ _ f11
        go_simp
        clear s0 s1 s2 s3 s4 s5 s6 s7 s8 s9 s10 s11
        refine hK.out _ _ (below_set6 hHeld lf11 (.int .i64 1) (.int .u32 0) (.slice (some ⟨b8, 0, none⟩) 1 1) (.slice none 0 0) (.slice none 0 0) (.slice none 0 0)) (fun hHeld => ?_)
        clear hK K
        replace fg := (set6_ne (ne_of_obj fg f11 (by simp)) (.int .i64 1) (.int .u32 0) (.slice (some ⟨b8, 0, none⟩) 1 1) (.slice none 0 0) (.slice none 0 0) (.slice none 0 0)).trans fg
        replace fA := (set6_ne (ne_of_obj fA f11 (by simp)) (.int .i64 1) (.int .u32 0) (.slice (some ⟨b8, 0, none⟩) 1 1) (.slice none 0 0) (.slice none 0 0) (.slice none 0 0)).trans fA
        replace f10 := (set6_ne (ne) (.int .i64 1) (.int .u32 0) (.slice (some ⟨b8, 0, none⟩) 1 1) (.slice none 0 0) (.slice none 0 0) (.slice none 0 0)).trans f10
        replace f8 := (set6_ne (ne_of_obj f8 f11 (by simp)) (.int .i64 1) (.int .u32 0) (.slice (some ⟨b8, 0, none⟩) 1 1) (.slice none 0 0) (.slice none 0 0) (.slice none 0 0)).trans f8
        replace f11 := set6 f11 (.int .i64 1) (.int .u32 0) (.slice (some ⟨b8, 0, none⟩) 1 1) (.slice none 0 0) (.slice none 0 0) (.slice none 0 0)
        generalize ((((((Z18.setCell ⟨i11, 0, none⟩ (.int .i64 1)).setCell ⟨i11, 1, none⟩ (.int .u32 0)).setCell ⟨i11, 2, none⟩ (.slice (some ⟨b8, 0, none⟩) 1 1)).setCell ⟨i11, 3, none⟩ (.slice none 0 0)).setCell ⟨i11, 4, none⟩ (.slice none 0 0)).setCell ⟨i11, 5, none⟩ (.slice none 0 0)) = Z19 at *
        refine wpAnyH_done (by kernel_rfl) ?_ _
        refine NoPanic.normal ?_
        show K _ _
        exact REST f10 f11 f8 fg fA hHeld
      refine AllReadyH.cons (o := ?oi30) ?hi30 (fun K hK => ?step30) AllReadyH.nil
      case hi30 => simp only [List.getElem?_toArray, List.getElem?_cons_zero, List.getElem?_cons_succ]; rfl
      obtain ⟨s0, s1, s2, s3, s4, s5⟩ := cells6 f10
      have s6 := frozen_of_row _ _ 0 _ _ f10
      have s7 := frozen_of_row _ _ 1 _ _ f10
      have s8 := frozen_of_row _ _ 2 _ _ f10
      have s9 := frozen_of_row _ _ 3 _ _ f10
      have s10 := frozen_of_row _ _ 4 _ _ f10
      have s11 := frozen_of_row _ _ 5 _ _ f10
      go_simp
      clear s0 s1 s2 s3 s4 s5 s6 s7 s8 s9 s10 s11
      refine hK.out _ _ (below_set6 hHeld lf10 (.int .i64 3) (.int .u32 0) (.slice none 0 0) (.slice (some ⟨g, 0, none⟩) 1 1) (.slice none 0 0) (.slice none 0 0)) (fun hHeld => ?_)
      clear hK K
      replace fg := (set6_ne (ne_of_obj fg f10 (by simp)) (.int .i64 3) (.int .u32 0) (.slice none 0 0) (.slice (some ⟨g, 0, none⟩) 1 1) (.slice none 0 0) (.slice none 0 0)).trans fg
      replace fA := (set6_ne (ne_of_obj fA f10 (by simp)) (.int .i64 3) (.int .u32 0) (.slice none 0 0) (.slice (some ⟨g, 0, none⟩) 1 1) (.slice none 0 0) (.slice none 0 0)).trans fA
      replace f11 := (set6_ne (Ne.symm ne) (.int .i64 3) (.int .u32 0) (.slice none 0 0) (.slice (some ⟨g, 0, none⟩) 1 1) (.slice none 0 0) (.slice none 0 0)).trans f11
      replace f10 := set6 f10 (.int .i64 3) (.int .u32 0) (.slice none 0 0) (.slice (some ⟨g, 0, none⟩) 1 1) (.slice none 0 0) (.slice none 0 0)
      generalize ((((((Z16.setCell ⟨i10, 0, none⟩ (.int .i64 3)).setCell ⟨i10, 1, none⟩ (.int .u32 0)).setCell ⟨i10, 2, none⟩ (.slice none 0 0)).setCell ⟨i10, 3, none⟩ (.slice (some ⟨g, 0, none⟩) 1 1)).setCell ⟨i10, 4, none⟩ (.slice none 0 0)).setCell ⟨i10, 5, none⟩ (.slice none 0 0)) = Z20 at *
      refine wpAnyH_ready (rs := [8]) (by kernel_rfl) (by simp) ?_
      refine AllReadyH.cons (o := ?oi31) ?hi31 (fun K hK => ?step31) AllReadyH.nil
      case hi31 => simp only [List.getElem?_toArray, List.getElem?_cons_zero, List.getElem?_cons_succ]; rfl
      go_simp
      have lf8 := hHeld.size
      replace fg := blk_up fg (.cells #[.float .f64 p0, .float .f64 p1] 24)
      replace fA := blk_up fA (.cells #[.float .f64 p0, .float .f64 p1] 24)
      replace f10 := blk_up f10 (.cells #[.float .f64 p0, .float .f64 p1] 24)
      replace f11 := blk_up f11 (.cells #[.float .f64 p0, .float .f64 p1] 24)
      have f8 := heap_alloc_new Z20 (.cells #[.float .f64 p0, .float .f64 p1] 24)
      refine hK.out _ _ (below_alloc hHeld _) (fun hHeld => ?_)
      clear hK K
      (try simp only [Act.put, List.setIfInBounds_toArray, List.set_cons_zero, List.set_cons_succ])
      generalize Z20.alloc (.cells #[.float .f64 p0, .float .f64 p1] 24) = Z21 at *
      generalize Z20.heap.size = b8 at *
      refine take_ (oi := ?oi32) (i := 9) (N := some 38) (v := ?v32) ?hi32 (by kernel_rfl) (by kernel_rfl) (by kernel_rfl) ?hQ32 ?hN32 (Or.inl ⟨?hw32, ?hy32⟩) hHeld ?rest32
      case hi32 => simp only [List.getElem?_toArray, List.getElem?_cons_zero, List.getElem?_cons_succ]; rfl
      case hQ32 => exact fun _ _ _ h => h
      case hN32 => rfl
      case hw32 => rfl
      case hy32 => intro W hSw; have z0 := pw_cell_below (show Below _ _ W from hSw) q0; have z1 := pw_cell_below (show Below _ _ W from hSw) q1; have z2 := pw_cell_below (show Below _ _ W from hSw) q2; have z3 := pw_cell_below (show Below _ _ W from hSw) q3; go_simp; (try with_reducible rfl)
      simp only [Act.put, List.setIfInBounds_toArray, List.set_cons_zero, List.set_cons_succ]
      refine wpAnyH_ready (rs := [13]) (by kernel_rfl) (by simp) ?_
      refine AllReadyH.cons (o := ?oi33) ?hi33 (fun K hK => ?step33) AllReadyH.nil
      case hi33 => simp only [List.getElem?_toArray, List.getElem?_cons_zero, List.getElem?_cons_succ]; rfl
      obtain ⟨s0, s1, s2, s3, s4, s5⟩ := cells6 f11
      have s6 := frozen_of_row _ _ 0 _ _ f11
      have s7 := frozen_of_row _ _ 1 _ _ f11
      have s8 := frozen_of_row _ _ 2 _ _ f11
      have s9 := frozen_of_row _ _ 3 _ _ f11
      have s10 := frozen_of_row _ _ 4 _ _ f11
      have s11 := frozen_of_row _ _ 5 _ _ f11
      go_simp
      clear s0 s1 s2 s3 s4 s5 s6 s7 s8 s9 s10 s11
      refine hK.out _ _ (below_set6 hHeld lf11 (.int .i64 1) (.int .u32 0) (.slice (some ⟨b8, 0, none⟩) 1 1) (.slice none 0 0) (.slice none 0 0) (.slice none 0 0)) (fun hHeld => ?_)
      clear hK K
      replace fg := (set6_ne (ne_of_obj fg f11 (by simp)) (.int .i64 1) (.int .u32 0) (.slice (some ⟨b8, 0, none⟩) 1 1) (.slice none 0 0) (.slice none 0 0) (.slice none 0 0)).trans fg
      replace fA := (set6_ne (ne_of_obj fA f11 (by simp)) (.int .i64 1) (.int .u32 0) (.slice (some ⟨b8, 0, none⟩) 1 1) (.slice none 0 0) (.slice none 0 0) (.slice none 0 0)).trans fA
      replace f10 := (set6_ne (ne) (.int .i64 1) (.int .u32 0) (.slice (some ⟨b8, 0, none⟩) 1 1) (.slice none 0 0) (.slice none 0 0) (.slice none 0 0)).trans f10
      replace f8 := (set6_ne (ne_of_obj f8 f11 (by simp)) (.int .i64 1) (.int .u32 0) (.slice (some ⟨b8, 0, none⟩) 1 1) (.slice none 0 0) (.slice none 0 0) (.slice none 0 0)).trans f8
      replace f11 := set6 f11 (.int .i64 1) (.int .u32 0) (.slice (some ⟨b8, 0, none⟩) 1 1) (.slice none 0 0) (.slice none 0 0) (.slice none 0 0)
      generalize ((((((Z21.setCell ⟨i11, 0, none⟩ (.int .i64 1)).setCell ⟨i11, 1, none⟩ (.int .u32 0)).setCell ⟨i11, 2, none⟩ (.slice (some ⟨b8, 0, none⟩) 1 1)).setCell ⟨i11, 3, none⟩ (.slice none 0 0)).setCell ⟨i11, 4, none⟩ (.slice none 0 0)).setCell ⟨i11, 5, none⟩ (.slice none 0 0)) = Z22 at *
      refine wpAnyH_done (by kernel_rfl) ?_ _
      refine NoPanic.normal ?_
      show K _ _
      exact REST f10 f11 f8 fg fA hHeld
    refine AllReadyH.cons (o := ?oi34) ?hi34 (fun K hK => ?step34) AllReadyH.nil
    case hi34 => simp only [List.getElem?_toArray, List.getElem?_cons_zero, List.getElem?_cons_succ]; rfl
    go_simp
    have lf11 := hHeld.size
    replace fg := blk_up fg (.cells #[.int .i64 0, .int .u32 0, .slice none 0 0, .slice none 0 0, .slice none 0 0, .slice none 0 0] 32)
    replace fA := blk_up fA (.cells #[.int .i64 0, .int .u32 0, .slice none 0 0, .slice none 0 0, .slice none 0 0, .slice none 0 0] 32)
    have f11 := heap_alloc_new Z1 (.cells #[.int .i64 0, .int .u32 0, .slice none 0 0, .slice none 0 0, .slice none 0 0, .slice none 0 0] 32)
    refine hK.out _ _ (below_alloc hHeld _) (fun hHeld => ?_)
    clear hK K
    (try simp only [Act.put, List.setIfInBounds_toArray, List.set_cons_zero, List.set_cons_succ])
    generalize Z1.alloc (.cells #[.int .i64 0, .int .u32 0, .slice none 0 0, .slice none 0 0, .slice none 0 0, .slice none 0 0] 32) = Z23 at *
    generalize Z1.heap.size = i11 at *
    refine wpAnyH_ready (rs := [8, 10]) (by kernel_rfl) (by simp) ?_
    refine AllReadyH.cons (o := ?oi35) ?hi35 (fun K hK => ?step35) ?more35
    case hi35 => simp only [List.getElem?_toArray, List.getElem?_cons_zero, List.getElem?_cons_succ]; rfl
    case step35 =>
      go_simp
      have lf8 := hHeld.size
      replace fg := blk_up fg (.cells #[.float .f64 p0, .float .f64 p1] 24)
      replace fA := blk_up fA (.cells #[.float .f64 p0, .float .f64 p1] 24)
      replace f11 := blk_up f11 (.cells #[.float .f64 p0, .float .f64 p1] 24)
      have f8 := heap_alloc_new Z23 (.cells #[.float .f64 p0, .float .f64 p1] 24)
      refine hK.out _ _ (below_alloc hHeld _) (fun hHeld => ?_)
      clear hK K
      (try simp only [Act.put, List.setIfInBounds_toArray, List.set_cons_zero, List.set_cons_succ])
      generalize Z23.alloc (.cells #[.float .f64 p0, .float .f64 p1] 24) = Z24 at *
      generalize Z23.heap.size = b8 at *
      refine take_ (oi := ?oi36) (i := 9) (N := some 38) (v := ?v36) ?hi36 (by kernel_rfl) (by kernel_rfl) (by kernel_rfl) ?hQ36 ?hN36 (Or.inl ⟨?hw36, ?hy36⟩) hHeld ?rest36
      case hi36 => simp only [List.getElem?_toArray, List.getElem?_cons_zero, List.getElem?_cons_succ]; rfl
      case hQ36 => exact fun _ _ _ h => h
      case hN36 => rfl
      case hw36 => rfl
      case hy36 => intro W hSw; have z0 := pw_cell_below (show Below _ _ W from hSw) q0; have z1 := pw_cell_below (show Below _ _ W from hSw) q1; have z2 := pw_cell_below (show Below _ _ W from hSw) q2; have z3 := pw_cell_below (show Below _ _ W from hSw) q3; go_simp; (try with_reducible rfl)
      simp only [Act.put, List.setIfInBounds_toArray, List.set_cons_zero, List.set_cons_succ]
      refine wpAnyH_ready (rs := [10]) (by kernel_rfl) (by simp) ?_
      refine AllReadyH.cons (o := ?oi37) ?hi37 (fun K hK => ?step37) AllReadyH.nil
      case hi37 => simp only [List.getElem?_toArray, List.getElem?_cons_zero, List.getElem?_cons_succ]; rfl
      go_simp
      have lf10 := hHeld.size
      have ne := Nat.ne_of_gt (blk_lt f11)
      replace fg := blk_up fg (.cells #[.int .i64 0, .int .u32 0, .slice none 0 0, .slice none 0 0, .slice none 0 0, .slice none 0 0] 32)
      replace fA := blk_up fA (.cells #[.int .i64 0, .int .u32 0, .slice none 0 0, .slice none 0 0, .slice none 0 0, .slice none 0 0] 32)
      replace f11 := blk_up f11 (.cells #[.int .i64 0, .int .u32 0, .slice none 0 0, .slice none 0 0, .slice none 0 0, .slice none 0 0] 32)
      replace f8 := blk_up f8 (.cells #[.int .i64 0, .int .u32 0, .slice none 0 0, .slice none 0 0, .slice none 0 0, .slice none 0 0] 32)
      have f10 := heap_alloc_new Z24 (.cells #[.int .i64 0, .int .u32 0, .slice none 0 0, .slice none 0 0, .slice none 0 0, .slice none 0 0] 32)
      refine hK.out _ _ (below_alloc hHeld _) (fun hHeld => ?_)
      clear hK K
      (try simp only [Act.put, List.setIfInBounds_toArray, List.set_cons_zero, List.set_cons_succ])
      generalize Z24.alloc (.cells #[.int .i64 0, .int .u32 0, .slice none 0 0, .slice none 0 0, .slice none 0 0, .slice none 0 0] 32) = Z25 at *
      generalize Z24.heap.size = i10 at *
      refine wpAnyH_ready (rs := [12]) (by kernel_rfl) (by simp) ?_
      refine AllReadyH.cons (o := ?oi38) ?hi38 (fun K hK => ?step38) AllReadyH.nil
      case hi38 => simp only [List.getElem?_toArray, List.getElem?_cons_zero, List.getElem?_cons_succ]; rfl
      obtain ⟨s0, s1, s2, s3, s4, s5⟩ := cells6 f10
      have s6 := frozen_of_row _ _ 0 _ _ f10
      have s7 := frozen_of_row _ _ 1 _ _ f10
      have s8 := frozen_of_row _ _ 2 _ _ f10
      have s9 := frozen_of_row _ _ 3 _ _ f10
      have s10 := frozen_of_row _ _ 4 _ _ f10
      have s11 := frozen_of_row _ _ 5 _ _ f10
      go_simp
      clear s0 s1 s2 s3 s4 s5 s6 s7 s8 s9 s10 s11
      refine hK.out _ _ (below_set6 hHeld lf10 (.int .i64 3) (.int .u32 0) (.slice none 0 0) (.slice (some ⟨g, 0, none⟩) 1 1) (.slice none 0 0) (.slice none 0 0)) (fun hHeld => ?_)
      clear hK K
      replace fg := (set6_ne (ne_of_obj fg f10 (by simp)) (.int .i64 3) (.int .u32 0) (.slice none 0 0) (.slice (some ⟨g, 0, none⟩) 1 1) (.slice none 0 0) (.slice none 0 0)).trans fg
      replace fA := (set6_ne (ne_of_obj fA f10 (by simp)) (.int .i64 3) (.int .u32 0) (.slice none 0 0) (.slice (some ⟨g, 0, none⟩) 1 1) (.slice none 0 0) (.slice none 0 0)).trans fA
      replace f11 := (set6_ne (Ne.symm ne) (.int .i64 3) (.int .u32 0) (.slice none 0 0) (.slice (some ⟨g, 0, none⟩) 1 1) (.slice none 0 0) (.slice none 0 0)).trans f11
      replace f8 := (set6_ne (ne_of_obj f8 f10 (by simp)) (.int .i64 3) (.int .u32 0) (.slice none 0 0) (.slice (some ⟨g, 0, none⟩) 1 1) (.slice none 0 0) (.slice none 0 0)).trans f8
      replace f10 := set6 f10 (.int .i64 3) (.int .u32 0) (.slice none 0 0) (.slice (some ⟨g, 0, none⟩) 1 1) (.slice none 0 0) (.slice none 0 0)
      generalize ((((((Z25.setCell ⟨i10, 0, none⟩ (.int .i64 3)).setCell ⟨i10, 1, none⟩ (.int .u32 0)).setCell ⟨i10, 2, none⟩ (.slice none 0 0)).setCell ⟨i10, 3, none⟩ (.slice (some ⟨g, 0, none⟩) 1 1)).setCell ⟨i10, 4, none⟩ (.slice none 0 0)).setCell ⟨i10, 5, none⟩ (.slice none 0 0)) = Z26 at *
      refine wpAnyH_ready (rs := [13]) (by kernel_rfl) (by simp) ?_
      refine AllReadyH.cons (o := ?oi39) ?hi39 (fun K hK => ?step39) AllReadyH.nil
      case hi39 => simp only [List.getElem?_toArray, List.getElem?_cons_zero, List.getElem?_cons_succ]; rfl
      obtain ⟨s0, s1, s2, s3, s4, s5⟩ := cells6 f11
      have s6 := frozen_of_row _ _ 0 _ _ f11
      have s7 := frozen_of_row _ _ 1 _ _ f11
      have s8 := frozen_of_row _ _ 2 _ _ f11
      have s9 := frozen_of_row _ _ 3 _ _ f11
      have s10 := frozen_of_row _ _ 4 _ _ f11
      have s11 := frozen_of_row _ _ 5 _ _ f11
      go_simp
      clear s0 s1 s2 s3 s4 s5 s6 s7 s8 s9 s10 s11
      refine hK.out _ _ (below_set6 hHeld lf11 (.int .i64 1) (.int .u32 0) (.slice (some ⟨b8, 0, none⟩) 1 1) (.slice none 0 0) (.slice none 0 0) (.slice none 0 0)) (fun hHeld => ?_)
      clear hK K
      replace fg := (set6_ne (ne_of_obj fg f11 (by simp)) (.int .i64 1) (.int .u32 0) (.slice (some ⟨b8, 0, none⟩) 1 1) (.slice none 0 0) (.slice none 0 0) (.slice none 0 0)).trans fg
      replace fA := (set6_ne (ne_of_obj fA f11 (by simp)) (.int .i64 1) (.int .u32 0) (.slice (some ⟨b8, 0, none⟩) 1 1) (.slice none 0 0) (.slice none 0 0) (.slice none 0 0)).trans fA
      replace f8 := (set6_ne (ne_of_obj f8 f11 (by simp)) (.int .i64 1) (.int .u32 0) (.slice (some ⟨b8, 0, none⟩) 1 1) (.slice none 0 0) (.slice none 0 0) (.slice none 0 0)).trans f8
      replace f10 := (set6_ne (ne) (.int .i64 1) (.int .u32 0) (.slice (some ⟨b8, 0, none⟩) 1 1) (.slice none 0 0) (.slice none 0 0) (.slice none 0 0)).trans f10
      replace f11 := set6 f11 (.int .i64 1) (.int .u32 0) (.slice (some ⟨b8, 0, none⟩) 1 1) (.slice none 0 0) (.slice none 0 0) (.slice none 0 0)
      generalize ((((((Z26.setCell ⟨i11, 0, none⟩ (.int .i64 1)).setCell ⟨i11, 1, none⟩ (.int .u32 0)).setCell ⟨i11, 2, none⟩ (.slice (some ⟨b8, 0, none⟩) 1 1)).setCell ⟨i11, 3, none⟩ (.slice none 0 0)).setCell ⟨i11, 4, none⟩ (.slice none 0 0)).setCell ⟨i11, 5, none⟩ (.slice none 0 0)) = Z27 at *
      refine wpAnyH_done (by kernel_rfl) ?_ _
      refine NoPanic.normal ?_
      show K _ _
      exact REST f10 f11 f8 fg fA hHeld
    refine AllReadyH.cons (o := ?oi40) ?hi40 (fun K hK => ?step40) AllReadyH.nil
    case hi40 => simp only [List.getElem?_toArray, List.getElem?_cons_zero, List.getElem?_cons_succ]; rfl
    go_simp
    have lf10 := hHeld.size
    have ne := Nat.ne_of_gt (blk_lt f11)
    replace fg := blk_up fg (.cells #[.int .i64 0, .int .u32 0, .slice none 0 0, .slice none 0 0, .slice none 0 0, .slice none 0 0] 32)
    replace fA := blk_up fA (.cells #[.int .i64 0, .int .u32 0, .slice none 0 0, .slice none 0 0, .slice none 0 0, .slice none 0 0] 32)
    replace f11 := blk_up f11 (.cells #[.int .i64 0, .int .u32 0, .slice none 0 0, .slice none 0 0, .slice none 0 0, .slice none 0 0] 32)
    have f10 := heap_alloc_new Z23 (.cells #[.int .i64 0, .int .u32 0, .slice none 0 0, .slice none 0 0, .slice none 0 0, .slice none 0 0] 32)
    refine hK.out _ _ (below_alloc hHeld _) (fun hHeld => ?_)
    clear hK K
    (try simp only [Act.put, List.setIfInBounds_toArray, List.set_cons_zero, List.set_cons_succ])
    generalize Z23.alloc (.cells #[.int .i64 0, .int .u32 0, .slice none 0 0, .slice none 0 0, .slice none 0 0, .slice none 0 0] 32) = Z28 at *
    generalize Z23.heap.size = i10 at *
    refine wpAnyH_ready (rs := [8, 12]) (by kernel_rfl) (by simp) ?_
    refine AllReadyH.cons (o := ?oi41) ?hi41 (fun K hK => ?step41) ?more41
    case hi41 => simp only [List.getElem?_toArray, List.getElem?_cons_zero, List.getElem?_cons_succ]; rfl
    case step41 =>
      go_simp
      have lf8 := hHeld.size
      replace fg := blk_up fg (.cells #[.float .f64 p0, .float .f64 p1] 24)
      replace fA := blk_up fA (.cells #[.float .f64 p0, .float .f64 p1] 24)
      replace f11 := blk_up f11 (.cells #[.float .f64 p0, .float .f64 p1] 24)
      replace f10 := blk_up f10 (.cells #[.float .f64 p0, .float .f64 p1] 24)
      have f8 := heap_alloc_new Z28 (.cells #[.float .f64 p0, .float .f64 p1] 24)
      refine hK.out _ _ (below_alloc hHeld _) (fun hHeld => ?_)
      clear hK K
      (try simp only [Act.put, List.setIfInBounds_toArray, List.set_cons_zero, List.set_cons_succ])
      generalize Z28.alloc (.cells #[.float .f64 p0, .float .f64 p1] 24) = Z29 at *
      generalize Z28.heap.size = b8 at *
      refine take_ (oi := ?oi42) (i := 9) (N := some 38) (v := ?v42) ?hi42 (by kernel_rfl) (by kernel_rfl) (by kernel_rfl) ?hQ42 ?hN42 (Or.inl ⟨?hw42, ?hy42⟩) hHeld ?rest42
      case hi42 => simp only [List.getElem?_toArray, List.getElem?_cons_zero, List.getElem?_cons_succ]; rfl
      case hQ42 => exact fun _ _ _ h => h
      case hN42 => rfl
      case hw42 => rfl
      case hy42 => intro W hSw; have z0 := pw_cell_below (show Below _ _ W from hSw) q0; have z1 := pw_cell_below (show Below _ _ W from hSw) q1; have z2 := pw_cell_below (show Below _ _ W from hSw) q2; have z3 := pw_cell_below (show Below _ _ W from hSw) q3; go_simp; (try with_reducible rfl)
      simp only [Act.put, List.setIfInBounds_toArray, List.set_cons_zero, List.set_cons_succ]
      refine wpAnyH_ready (rs := [12]) (by kernel_rfl) (by simp) ?_
      refine AllReadyH.cons (o := ?oi43) ?hi43 (fun K hK => ?step43) AllReadyH.nil
      case hi43 => simp only [List.getElem?_toArray, List.getElem?_cons_zero, List.getElem?_cons_succ]; rfl
      obtain ⟨s0, s1, s2, s3, s4, s5⟩ := cells6 f10
      have s6 := frozen_of_row _ _ 0 _ _ f10
      have s7 := frozen_of_row _ _ 1 _ _ f10
      have s8 := frozen_of_row _ _ 2 _ _ f10
      have s9 := frozen_of_row _ _ 3 _ _ f10
      have s10 := frozen_of_row _ _ 4 _ _ f10
      have s11 := frozen_of_row _ _ 5 _ _ f10
      go_simp
      clear s0 s1 s2 s3 s4 s5 s6 s7 s8 s9 s10 s11
      refine hK.out _ _ (below_set6 hHeld lf10 (.int .i64 3) (.int .u32 0) (.slice none 0 0) (.slice (some ⟨g, 0, none⟩) 1 1) (.slice none 0 0) (.slice none 0 0)) (fun hHeld => ?_)
      clear hK K
      replace fg := (set6_ne (ne_of_obj fg f10 (by simp)) (.int .i64 3) (.int .u32 0) (.slice none 0 0) (.slice (some ⟨g, 0, none⟩) 1 1) (.slice none 0 0) (.slice none 0 0)).trans fg
      replace fA := (set6_ne (ne_of_obj fA f10 (by simp)) (.int .i64 3) (.int .u32 0) (.slice none 0 0) (.slice (some ⟨g, 0, none⟩) 1 1) (.slice none 0 0) (.slice none 0 0)).trans fA
      replace f11 := (set6_ne (Ne.symm ne) (.int .i64 3) (.int .u32 0) (.slice none 0 0) (.slice (some ⟨g, 0, none⟩) 1 1) (.slice none 0 0) (.slice none 0 0)).trans f11
      replace f8 := (set6_ne (ne_of_obj f8 f10 (by simp)) (.int .i64 3) (.int .u32 0) (.slice none 0 0) (.slice (some ⟨g, 0, none⟩) 1 1) (.slice none 0 0) (.slice none 0 0)).trans f8
      replace f10 := set6 f10 (.int .i64 3) (.int .u32 0) (.slice none 0 0) (.slice (some ⟨g, 0, none⟩) 1 1) (.slice none 0 0) (.slice none 0 0)
      generalize ((((((Z29.setCell ⟨i10, 0, none⟩ (.int .i64 3)).setCell ⟨i10, 1, none⟩ (.int .u32 0)).setCell ⟨i10, 2, none⟩ (.slice none 0 0)).setCell ⟨i10, 3, none⟩ (.slice (some ⟨g, 0, none⟩) 1 1)).setCell ⟨i10, 4, none⟩ (.slice none 0 0)).setCell ⟨i10, 5, none⟩ (.slice none 0 0)) = Z30 at *
      refine wpAnyH_ready (rs := [13]) (by kernel_rfl) (by simp) ?_
      refine AllReadyH.cons (o := ?oi44) ?hi44 (fun K hK => ?step44) AllReadyH.nil
      case hi44 => simp only [List.getElem?_toArray, List.getElem?_cons_zero, List.getElem?_cons_succ]; rfl
      obtain ⟨s0, s1, s2, s3, s4, s5⟩ := cells6 f11
      have s6 := frozen_of_row _ _ 0 _ _ f11
      have s7 := frozen_of_row _ _ 1 _ _ f11
      have s8 := frozen_of_row _ _ 2 _ _ f11
      have s9 := frozen_of_row _ _ 3 _ _ f11
      have s10 := frozen_of_row _ _ 4 _ _ f11
      have s11 := frozen_of_row _ _ 5 _ _ f11
      go_simp
      clear s0 s1 s2 s3 s4 s5 s6 s7 s8 s9 s10 s11
      refine hK.out _ _ (below_set6 hHeld lf11 (.int .i64 1) (.int .u32 0) (.slice (some ⟨b8, 0, none⟩) 1 1) (.slice none 0 0) (.slice none 0 0) (.slice none 0 0)) (fun hHeld => ?_)
      clear hK K
      replace fg := (set6_ne (ne_of_obj fg f11 (by simp)) (.int .i64 1) (.int .u32 0) (.slice (some ⟨b8, 0, none⟩) 1 1) (.slice none 0 0) (.slice none 0 0) (.slice none 0 0)).trans fg
      replace fA := (set6_ne (ne_of_obj fA f11 (by simp)) (.int .i64 1) (.int .u32 0) (.slice (some ⟨b8, 0, none⟩) 1 1) (.slice none 0 0) (.slice none 0 0) (.slice none 0 0)).trans fA
      replace f10 := (set6_ne (ne) (.int .i64 1) (.int .u32 0) (.slice (some ⟨b8, 0, none⟩) 1 1) (.slice none 0 0) (.slice none 0 0) (.slice none 0 0)).trans f10
      replace f8 := (set6_ne (ne_of_obj f8 f11 (by simp)) (.int .i64 1) (.int .u32 0) (.slice (some ⟨b8, 0, none⟩) 1 1) (.slice none 0 0) (.slice none 0 0) (.slice none 0 0)).trans f8
      replace f11 := set6 f11 (.int .i64 1) (.int .u32 0) (.slice (some ⟨b8, 0, none⟩) 1 1) (.slice none 0 0) (.slice none 0 0) (.slice none 0 0)
      generalize ((((((Z30.setCell ⟨i11, 0, none⟩ (.int .i64 1)).setCell ⟨i11, 1, none⟩ (.int .u32 0)).setCell ⟨i11, 2, none⟩ (.slice (some ⟨b8, 0, none⟩) 1 1)).setCell ⟨i11, 3, none⟩ (.slice none 0 0)).setCell ⟨i11, 4, none⟩ (.slice none 0 0)).setCell ⟨i11, 5, none⟩ (.slice none 0 0)) = Z31 at *
      refine wpAnyH_done (by kernel_rfl) ?_ _
      refine NoPanic.normal ?_
      show K _ _
      exact REST f10 f11 f8 fg fA hHeld
    refine AllReadyH.cons (o := ?oi45) ?hi45 (fun K hK => ?step45) AllReadyH.nil
    case hi45 => simp only [List.getElem?_toArray, List.getElem?_cons_zero, List.getElem?_cons_succ]; rfl
    obtain ⟨s0, s1, s2, s3, s4, s5⟩ := cells6 f10
    have s6 := frozen_of_row _ _ 0 _ _ f10
    have s7 := frozen_of_row _ _ 1 _ _ f10
    have s8 := frozen_of_row _ _ 2 _ _ f10
    have s9 := frozen_of_row _ _ 3 _ _ f10
    have s10 := frozen_of_row _ _ 4 _ _ f10
    have s11 := frozen_of_row _ _ 5 _ _ f10
    go_simp
    clear s0 s1 s2 s3 s4 s5 s6 s7 s8 s9 s10 s11
    refine hK.out _ _ (below_set6 hHeld lf10 (.int .i64 3) (.int .u32 0) (.slice none 0 0) (.slice (some ⟨g, 0, none⟩) 1 1) (.slice none 0 0) (.slice none 0 0)) (fun hHeld => ?_)
    clear hK K
    replace fg := (set6_ne (ne_of_obj fg f10 (by simp)) (.int .i64 3) (.int .u32 0) (.slice none 0 0) (.slice (some ⟨g, 0, none⟩) 1 1) (.slice none 0 0) (.slice none 0 0)).trans fg
    replace fA := (set6_ne (ne_of_obj fA f10 (by simp)) (.int .i64 3) (.int .u32 0) (.slice none 0 0) (.slice (some ⟨g, 0, none⟩) 1 1) (.slice none 0 0) (.slice none 0 0)).trans fA
    replace f11 := (set6_ne (Ne.symm ne) (.int .i64 3) (.int .u32 0) (.slice none 0 0) (.slice (some ⟨g, 0, none⟩) 1 1) (.slice none 0 0) (.slice none 0 0)).trans f11
    replace f10 := set6 f10 (.int .i64 3) (.int .u32 0) (.slice none 0 0) (.slice (some ⟨g, 0, none⟩) 1 1) (.slice none 0 0) (.slice none 0 0)
    generalize ((((((Z28.setCell ⟨i10, 0, none⟩ (.int .i64 3)).setCell ⟨i10, 1, none⟩ (.int .u32 0)).setCell ⟨i10, 2, none⟩ (.slice none 0 0)).setCell ⟨i10, 3, none⟩ (.slice (some ⟨g, 0, none⟩) 1 1)).setCell ⟨i10, 4, none⟩ (.slice none 0 0)).setCell ⟨i10, 5, none⟩ (.slice none 0 0)) = Z32 at *
    refine wpAnyH_ready (rs := [8]) (by kernel_rfl) (by simp) ?_
    refine AllReadyH.cons (o := ?oi46) ?hi46 (fun K hK => ?step46) AllReadyH.nil
    case hi46 => simp only [List.getElem?_toArray, List.getElem?_cons_zero, List.getElem?_cons_succ]; rfl
    go_simp
    have lf8 := hHeld.size
    replace fg := blk_up fg (.cells #[.float .f64 p0, .float .f64 p1] 24)
    replace fA := blk_up fA (.cells #[.float .f64 p0, .float .f64 p1] 24)
    replace f11 := blk_up f11 (.cells #[.float .f64 p0, .float .f64 p1] 24)
    replace f10 := blk_up f10 (.cells #[.float .f64 p0, .float .f64 p1] 24)
    have f8 := heap_alloc_new Z32 (.cells #[.float .f64 p0, .float .f64 p1] 24)
    refine hK.out _ _ (below_alloc hHeld _) (fun hHeld => ?_)
    clear hK K
    (try simp only [Act.put, List.setIfInBounds_toArray, List.set_cons_zero, List.set_cons_succ])
    generalize Z32.alloc (.cells #[.float .f64 p0, .float .f64 p1] 24) = Z33 at *
    generalize Z32.heap.size = b8 at *
    refine take_ (oi := ?oi47) (i := 9) (N := some 38) (v := ?v47) ?hi47 (by kernel_rfl) (by kernel_rfl) (by kernel_rfl) ?hQ47 ?hN47 (Or.inl ⟨?hw47, ?hy47⟩) hHeld ?rest47
    case hi47 => simp only [List.getElem?_toArray, List.getElem?_cons_zero, List.getElem?_cons_succ]; rfl
    case hQ47 => exact fun _ _ _ h => h
    case hN47 => rfl
    case hw47 => rfl
    case hy47 => intro W hSw; have z0 := pw_cell_below (show Below _ _ W from hSw) q0; have z1 := pw_cell_below (show Below _ _ W from hSw) q1; have z2 := pw_cell_below (show Below _ _ W from hSw) q2; have z3 := pw_cell_below (show Below _ _ W from hSw) q3; go_simp; (try with_reducible rfl)
    simp only [Act.put, List.setIfInBounds_toArray, List.set_cons_zero, List.set_cons_succ]
    refine wpAnyH_ready (rs := [13]) (by kernel_rfl) (by simp) ?_
    refine AllReadyH.cons (o := ?oi48) ?hi48 (fun K hK => ?step48) AllReadyH.nil
    case hi48 => simp only [List.getElem?_toArray, List.getElem?_cons_zero, List.getElem?_cons_succ]; rfl
    obtain ⟨s0, s1, s2, s3, s4, s5⟩ := cells6 f11
    have s6 := frozen_of_row _ _ 0 _ _ f11
    have s7 := frozen_of_row _ _ 1 _ _ f11
    have s8 := frozen_of_row _ _ 2 _ _ f11
    have s9 := frozen_of_row _ _ 3 _ _ f11
    have s10 := frozen_of_row _ _ 4 _ _ f11
    have s11 := frozen_of_row _ _ 5 _ _ f11
    go_simp
    clear s0 s1 s2 s3 s4 s5 s6 s7 s8 s9 s10 s11
    refine hK.out _ _ (below_set6 hHeld lf11 (.int .i64 1) (.int .u32 0) (.slice (some ⟨b8, 0, none⟩) 1 1) (.slice none 0 0) (.slice none 0 0) (.slice none 0 0)) (fun hHeld => ?_)
    clear hK K
    replace fg := (set6_ne (ne_of_obj fg f11 (by simp)) (.int .i64 1) (.int .u32 0) (.slice (some ⟨b8, 0, none⟩) 1 1) (.slice none 0 0) (.slice none 0 0) (.slice none 0 0)).trans fg
    replace fA := (set6_ne (ne_of_obj fA f11 (by simp)) (.int .i64 1) (.int .u32 0) (.slice (some ⟨b8, 0, none⟩) 1 1) (.slice none 0 0) (.slice none 0 0) (.slice none 0 0)).trans fA
    replace f10 := (set6_ne (ne) (.int .i64 1) (.int .u32 0) (.slice (some ⟨b8, 0, none⟩) 1 1) (.slice none 0 0) (.slice none 0 0) (.slice none 0 0)).trans f10
    replace f8 := (set6_ne (ne_of_obj f8 f11 (by simp)) (.int .i64 1) (.int .u32 0) (.slice (some ⟨b8, 0, none⟩) 1 1) (.slice none 0 0) (.slice none 0 0) (.slice none 0 0)).trans f8
    replace f11 := set6 f11 (.int .i64 1) (.int .u32 0) (.slice (some ⟨b8, 0, none⟩) 1 1) (.slice none 0 0) (.slice none 0 0) (.slice none 0 0)
    generalize ((((((Z33.setCell ⟨i11, 0, none⟩ (.int .i64 1)).setCell ⟨i11, 1, none⟩ (.int .u32 0)).setCell ⟨i11, 2, none⟩ (.slice (some ⟨b8, 0, none⟩) 1 1)).setCell ⟨i11, 3, none⟩ (.slice none 0 0)).setCell ⟨i11, 4, none⟩ (.slice none 0 0)).setCell ⟨i11, 5, none⟩ (.slice none 0 0)) = Z34 at *
    refine wpAnyH_done (by kernel_rfl) ?_ _
    refine NoPanic.normal ?_
    show K _ _
    exact REST f10 f11 f8 fg fA hHeld
  refine AllReadyH.cons (o := ?oi49) ?hi49 (fun K hK => ?step49) ?more49
  case hi49 => simp only [List.getElem?_toArray, List.getElem?_cons_zero, List.getElem?_cons_succ]; rfl
  case step49 =>
    go_simp
    have lf8 := hHeld.size
    have f8 := heap_alloc_new Z0 (.cells #[.float .f64 p0, .float .f64 p1] 24)
    refine hK.out _ _ (below_alloc hHeld _) (fun hHeld => ?_)
    clear hK K
    (try simp only [Act.put, List.setIfInBounds_toArray, List.set_cons_zero, List.set_cons_succ])
    generalize Z0.alloc (.cells #[.float .f64 p0, .float .f64 p1] 24) = Z35 at *
    generalize Z0.heap.size = b8 at *
    refine take_ (oi := ?oi50) (i := 9) (N := some 38) (v := ?v50) ?hi50 (by kernel_rfl) (by kernel_rfl) (by kernel_rfl) ?hQ50 ?hN50 (Or.inl ⟨?hw50, ?hy50⟩) hHeld ?rest50
    case hi50 => simp only [List.getElem?_toArray, List.getElem?_cons_zero, List.getElem?_cons_succ]; rfl
    case hQ50 => exact fun _ _ _ h => h
    case hN50 => rfl
    case hw50 => rfl
    case hy50 => intro W hSw; have z0 := pw_cell_below (show Below _ _ W from hSw) q0; have z1 := pw_cell_below (show Below _ _ W from hSw) q1; have z2 := pw_cell_below (show Below _ _ W from hSw) q2; have z3 := pw_cell_below (show Below _ _ W from hSw) q3; go_simp; (try with_reducible rfl)
    simp only [Act.put, List.setIfInBounds_toArray, List.set_cons_zero, List.set_cons_succ]
    refine wpAnyH_ready (rs := [6, 10, 11]) (by kernel_rfl) (by simp) ?_
    refine AllReadyH.cons (o := ?oi51) ?hi51 (fun K hK => ?step51) ?more51
    case hi51 => simp only [List.getElem?_toArray, List.getElem?_cons_zero, List.getElem?_cons_succ]; rfl
    case step51 =>
      refine goes_ (N := some 35) Tryz.func5 (by kernel_rfl) rfl #[.float .f64 a0, .float .f64 a1, .float .f64 wd, .float .f64 hg] (by rfl) rfl rfl (by (try simp only [List.map_toArray, List.map_cons, List.map_nil]); rfl) ?_
      refine (HRc.out _).mono ?_
      rintro e Z36 ⟨g, gA, rfl, fg, fA, hb⟩
      refine ⟨_, rfl, ?_⟩
      replace f8 := (hb.block _ (blk_lt f8)).trans f8
      refine hK.out _ _ (below_step hHeld hb) (fun hHeld => ?_)
      clear hK K hb
      simp only [Act.put, List.setIfInBounds_toArray, List.set_cons_zero, List.set_cons_succ]
      refine wpAnyH_ready (rs := [10, 11]) (by kernel_rfl) (by simp) ?_
      refine AllReadyH.cons (o := ?oi52) ?hi52 (fun K hK => ?step52) ?more52
      case hi52 => simp only [List.getElem?_toArray, List.getElem?_cons_zero, List.getElem?_cons_succ]; rfl
      case step52 =>
        go_simp
        have lf10 := hHeld.size
        replace f8 := blk_up f8 (.cells #[.int .i64 0, .int .u32 0, .slice none 0 0, .slice none 0 0, .slice none 0 0, .slice none 0 0] 32)
        replace fg := blk_up fg (.cells #[.int .i64 0, .int .u32 0, .slice none 0 0, .slice none 0 0, .slice none 0 0, .slice none 0 0] 32)
        replace fA := blk_up fA (.cells #[.int .i64 0, .int .u32 0, .slice none 0 0, .slice none 0 0, .slice none 0 0, .slice none 0 0] 32)
        have f10 := heap_alloc_new Z36 (.cells #[.int .i64 0, .int .u32 0, .slice none 0 0, .slice none 0 0, .slice none 0 0, .slice none 0 0] 32)
        refine hK.out _ _ (below_alloc hHeld _) (fun hHeld => ?_)
        clear hK K
        (try simp only [Act.put, List.setIfInBounds_toArray, List.set_cons_zero, List.set_cons_succ])
        generalize Z36.alloc (.cells #[.int .i64 0, .int .u32 0, .slice none 0 0, .slice none 0 0, .slice none 0 0, .slice none 0 0] 32) = Z37 at *
        generalize Z36.heap.size = i10 at *
        refine wpAnyH_ready (rs := [11]) (by kernel_rfl) (by simp) ?_
        refine AllReadyH.cons (o := ?oi53) ?hi53 (fun K hK => ?step53) AllReadyH.nil
        case hi53 => simp only [List.getElem?_toArray, List.getElem?_cons_zero, List.getElem?_cons_succ]; rfl
        go_simp
        have lf11 := hHeld.size
        have ne := Nat.ne_of_lt (blk_lt f10)
        replace f8 := blk_up f8 (.cells #[.int .i64 0, .int .u32 0, .slice none 0 0, .slice none 0 0, .slice none 0 0, .slice none 0 0] 32)
        replace fg := blk_up fg (.cells #[.int .i64 0, .int .u32 0, .slice none 0 0, .slice none 0 0, .slice none 0 0, .slice none 0 0] 32)
        replace fA := blk_up fA (.cells #[.int .i64 0, .int .u32 0, .slice none 0 0, .slice none 0 0, .slice none 0 0, .slice none 0 0] 32)
        replace f10 := blk_up f10 (.cells #[.int .i64 0, .int .u32 0, .slice none 0 0, .slice none 0 0, .slice none 0 0, .slice none 0 0] 32)
        have f11 := heap_alloc_new Z37 (.cells #[.int .i64 0, .int .u32 0, .slice none 0 0, .slice none 0 0, .slice none 0 0, .slice none 0 0] 32)
        refine hK.out _ _ (below_alloc hHeld _) (fun hHeld => ?_)
        clear hK K
        (try simp only [Act.put, List.setIfInBounds_toArray, List.set_cons_zero, List.set_cons_succ])
        generalize Z37.alloc (.cells #[.int .i64 0, .int .u32 0, .slice none 0 0, .slice none 0 0, .slice none 0 0, .slice none 0 0] 32) = Z38 at *
        generalize Z37.heap.size = i11 at *
        refine wpAnyH_ready (rs := [12]) (by kernel_rfl) (by simp) ?_
        refine AllReadyH.cons (o := ?oi54) ?hi54 (fun K hK => ?step54) AllReadyH.nil
        case hi54 => simp only [List.getElem?_toArray, List.getElem?_cons_zero, List.getElem?_cons_succ]; rfl
        obtain ⟨s0, s1, s2, s3, s4, s5⟩ := cells6 f10
        have s6 := frozen_of_row _ _ 0 _ _ f10
        have s7 := frozen_of_row _ _ 1 _ _ f10
        have s8 := frozen_of_row _ _ 2 _ _ f10
        have s9 := frozen_of_row _ _ 3 _ _ f10
        have s10 := frozen_of_row _ _ 4 _ _ f10
        have s11 := frozen_of_row _ _ 5 _ _ f10
        go_simp
        clear s0 s1 s2 s3 s4 s5 s6 s7 s8 s9 s10 s11
        refine hK.out _ _ (below_set6 hHeld lf10 (.int .i64 3) (.int .u32 0) (.slice none 0 0) (.slice (some ⟨g, 0, none⟩) 1 1) (.slice none 0 0) (.slice none 0 0)) (fun hHeld => ?_)
        clear hK K
        replace f8 := (set6_ne (ne_of_obj f8 f10 (by simp)) (.int .i64 3) (.int .u32 0) (.slice none 0 0) (.slice (some ⟨g, 0, none⟩) 1 1) (.slice none 0 0) (.slice none 0 0)).trans f8
        replace fg := (set6_ne (ne_of_obj fg f10 (by simp)) (.int .i64 3) (.int .u32 0) (.slice none 0 0) (.slice (some ⟨g, 0, none⟩) 1 1) (.slice none 0 0) (.slice none 0 0)).trans fg
        replace fA := (set6_ne (ne_of_obj fA f10 (by simp)) (.int .i64 3) (.int .u32 0) (.slice none 0 0) (.slice (some ⟨g, 0, none⟩) 1 1) (.slice none 0 0) (.slice none 0 0)).trans fA
        replace f11 := (set6_ne (Ne.symm ne) (.int .i64 3) (.int .u32 0) (.slice none 0 0) (.slice (some ⟨g, 0, none⟩) 1 1) (.slice none 0 0) (.slice none 0 0)).trans f11
        replace f10 := set6 f10 (.int .i64 3) (.int .u32 0) (.slice none 0 0) (.slice (some ⟨g, 0, none⟩) 1 1) (.slice none 0 0) (.slice none 0 0)
        generalize ((((((Z38.setCell ⟨i10, 0, none⟩ (.int .i64 3)).setCell ⟨i10, 1, none⟩ (.int .u32 0)).setCell ⟨i10, 2, none⟩ (.slice none 0 0)).setCell ⟨i10, 3, none⟩ (.slice (some ⟨g, 0, none⟩) 1 1)).setCell ⟨i10, 4, none⟩ (.slice none 0 0)).setCell ⟨i10, 5, none⟩ (.slice none 0 0)) = Z39 at *
        refine wpAnyH_ready (rs := [13]) (by kernel_rfl) (by simp) ?_
        refine AllReadyH.cons (o := ?oi55) ?hi55 (fun K hK => ?step55) AllReadyH.nil
        case hi55 => simp only [List.getElem?_toArray, List.getElem?_cons_zero, List.getElem?_cons_succ]; rfl
        obtain ⟨s0, s1, s2, s3, s4, s5⟩ := cells6 f11
        have s6 := frozen_of_row _ _ 0 _ _ f11
        have s7 := frozen_of_row _ _ 1 _ _ f11
        have s8 := frozen_of_row _ _ 2 _ _ f11
        have s9 := frozen_of_row _ _ 3 _ _ f11
        have s10 := frozen_of_row _ _ 4 _ _ f11
        have s11 := frozen_of_row _ _ 5 _ _ f11
        go_simp
        clear s0 s1 s2 s3 s4 s5 s6 s7 s8 s9 s10 s11
        refine hK.out _ _ (below_set6 hHeld lf11 (.int .i64 1) (.int .u32 0) (.slice (some ⟨b8, 0, none⟩) 1 1) (.slice none 0 0) (.slice none 0 0) (.slice none 0 0)) (fun hHeld => ?_)
        clear hK K
        replace f8 := (set6_ne (ne_of_obj f8 f11 (by simp)) (.int .i64 1) (.int .u32 0) (.slice (some ⟨b8, 0, none⟩) 1 1) (.slice none 0 0) (.slice none 0 0) (.slice none 0 0)).trans f8
        replace fg := (set6_ne (ne_of_obj fg f11 (by simp)) (.int .i64 1) (.int .u32 0) (.slice (some ⟨b8, 0, none⟩) 1 1) (.slice none 0 0) (.slice none 0 0) (.slice none 0 0)).trans fg
        replace fA := (set6_ne (ne_of_obj fA f11 (by simp)) (.int .i64 1) (.int .u32 0) (.slice (some ⟨b8, 0, none⟩) 1 1) (.slice none 0 0) (.slice none 0 0) (.slice none 0 0)).trans fA
        replace f10 := (set6_ne (ne) (.int .i64 1) (.int .u32 0) (.slice (some ⟨b8, 0, none⟩) 1 1) (.slice none 0 0) (.slice none 0 0) (.slice none 0 0)).trans f10
        replace f11 := set6 f11 (.int .i64 1) (.int .u32 0) (.slice (some ⟨b8, 0, none⟩) 1 1) (.slice none 0 0) (.slice none 0 0) (.slice none 0 0)
        generalize ((((((Z39.setCell ⟨i11, 0, none⟩ (.int .i64 1)).setCell ⟨i11, 1, none⟩ (.int .u32 0)).setCell ⟨i11, 2, none⟩ (.slice (some ⟨b8, 0, none⟩) 1 1)).setCell ⟨i11, 3, none⟩ (.slice none 0 0)).setCell ⟨i11, 4, none⟩ (.slice none 0 0)).setCell ⟨i11, 5, none⟩ (.slice none 0 0)) = Z40 at *
        refine wpAnyH_done (by kernel_rfl) ?_ _
        refine NoPanic.normal ?_
        show K _ _
        exact REST f10 f11 f8 fg fA hHeld
      refine AllReadyH.cons (o := ?oi56) ?hi56 (fun K hK => ?step56) AllReadyH.nil
      case hi56 => simp only [List.getElem?_toArray, List.getElem?_cons_zero, List.getElem?_cons_succ]; rfl
      go_simp
      have lf11 := hHeld.size
      replace f8 := blk_up f8 (.cells #[.int .i64 0, .int .u32 0, .slice none 0 0, .slice none 0 0, .slice none 0 0, .slice none 0 0] 32)
      replace fg := blk_up fg (.cells #[.int .i64 0, .int .u32 0, .slice none 0 0, .slice none 0 0, .slice none 0 0, .slice none 0 0] 32)
      replace fA := blk_up fA (.cells #[.int .i64 0, .int .u32 0, .slice none 0 0, .slice none 0 0, .slice none 0 0, .slice none 0 0] 32)
      have f11 := heap_alloc_new Z36 (.cells #[.int .i64 0, .int .u32 0, .slice none 0 0, .slice none 0 0, .slice none 0 0, .slice none 0 0] 32)
      refine hK.out _ _ (below_alloc hHeld _) (fun hHeld => ?_)
      clear hK K
      (try simp only [Act.put, List.setIfInBounds_toArray, List.set_cons_zero, List.set_cons_succ])
      generalize Z36.alloc (.cells #[.int .i64 0, .int .u32 0, .slice none 0 0, .slice none 0 0, .slice none 0 0, .slice none 0 0] 32) = Z41 at *
      generalize Z36.heap.size = i11 at *
      refine wpAnyH_ready (rs := [10]) (by kernel_rfl) (by simp) ?_
      refine AllReadyH.cons (o := ?oi57) ?hi57 (fun K hK => ?step57) AllReadyH.nil
      case hi57 => simp only [List.getElem?_toArray, List.getElem?_cons_zero, List.getElem?_cons_succ]; rfl
      go_simp
      have lf10 := hHeld.size
      have ne := Nat.ne_of_gt (blk_lt f11)
      replace f8 := blk_up f8 (.cells #[.int .i64 0, .int .u32 0, .slice none 0 0, .slice none 0 0, .slice none 0 0, .slice none 0 0] 32)
      replace fg := blk_up fg (.cells #[.int .i64 0, .int .u32 0, .slice none 0 0, .slice none 0 0, .slice none 0 0, .slice none 0 0] 32)
      replace fA := blk_up fA (.cells #[.int .i64 0, .int .u32 0, .slice none 0 0, .slice none 0 0, .slice none 0 0, .slice none 0 0] 32)
      replace f11 := blk_up f11 (.cells #[.int .i64 0, .int .u32 0, .slice none 0 0, .slice none 0 0, .slice none 0 0, .slice none 0 0] 32)
      have f10 := heap_alloc_new Z41 (.cells #[.int .i64 0, .int .u32 0, .slice none 0 0, .slice none 0 0, .slice none 0 0, .slice none 0 0] 32)
      refine hK.out _ _ (below_alloc hHeld _) (fun hHeld => ?_)
      clear hK K
      (try simp only [Act.put, List.setIfInBounds_toArray, List.set_cons_zero, List.set_cons_succ])
      generalize Z41.alloc (.cells #[.int .i64 0, .int .u32 0, .slice none 0 0, .slice none 0 0, .slice none 0 0, .slice none 0 0] 32) = Z42 at *
      generalize Z41.heap.size = i10 at *
      refine wpAnyH_ready (rs := [12]) (by kernel_rfl) (by simp) ?_
      refine AllReadyH.cons (o := ?oi58) ?hi58 (fun K hK => ?step58) AllReadyH.nil
      case hi58 => simp only [List.getElem?_toArray, List.getElem?_cons_zero, List.getElem?_cons_succ]; rfl
      obtain ⟨s0, s1, s2, s3, s4, s5⟩ := cells6 f10
      have s6 := frozen_of_row _ _ 0 _ _ f10
      have s7 := frozen_of_row _ _ 1 _ _ f10
      have s8 := frozen_of_row _ _ 2 _ _ f10
      have s9 := frozen_of_row _ _ 3 _ _ f10
      have s10 := frozen_of_row _ _ 4 _ _ f10
      have s11 := frozen_of_row _ _ 5 _ _ f10
      go_simp
      clear s0 s1 s2 s3 s4 s5 s6 s7 s8 s9 s10 s11
      refine hK.out _ _ (below_set6 hHeld lf10 (.int .i64 3) (.int .u32 0) (.slice none 0 0) (.slice (some ⟨g, 0, none⟩) 1 1) (.slice none 0 0) (.slice none 0 0)) (fun hHeld => ?_)
      clear hK K
      replace f8 := (set6_ne (ne_of_obj f8 f10 (by simp)) (.int .i64 3) (.int .u32 0) (.slice none 0 0) (.slice (some ⟨g, 0, none⟩) 1 1) (.slice none 0 0) (.slice none 0 0)).trans f8
      replace fg := (set6_ne (ne_of_obj fg f10 (by simp)) (.int .i64 3) (.int .u32 0) (.slice none 0 0) (.slice (some ⟨g, 0, none⟩) 1 1) (.slice none 0 0) (.slice none 0 0)).trans fg
      replace fA := (set6_ne (ne_of_obj fA f10 (by simp)) (.int .i64 3) (.int .u32 0) (.slice none 0 0) (.slice (some ⟨g, 0, none⟩) 1 1) (.slice none 0 0) (.slice none 0 0)).trans fA
      replace f11 := (set6_ne (Ne.symm ne) (.int .i64 3) (.int .u32 0) (.slice none 0 0) (.slice (some ⟨g, 0, none⟩) 1 1) (.slice none 0 0) (.slice none 0 0)).trans f11
      replace f10 := set6 f10 (.int .i64 3) (.int .u32 0) (.slice none 0 0) (.slice (some ⟨g, 0, none⟩) 1 1) (.slice none 0 0) (.slice none 0 0)
      generalize ((((((Z42.setCell ⟨i10, 0, none⟩ (.int .i64 3)).setCell ⟨i10, 1, none⟩ (.int .u32 0)).setCell ⟨i10, 2, none⟩ (.slice none 0 0)).setCell ⟨i10, 3, none⟩ (.slice (some ⟨g, 0, none⟩) 1 1)).setCell ⟨i10, 4, none⟩ (.slice none 0 0)).setCell ⟨i10, 5, none⟩ (.slice none 0 0)) = Z43 at *
      refine wpAnyH_ready (rs := [13]) (by kernel_rfl) (by simp) ?_
      refine AllReadyH.cons (o := ?oi59) ?hi59 (fun K hK => ?step59) AllReadyH.nil
      case hi59 => simp only [List.getElem?_toArray, List.getElem?_cons_zero, List.getElem?_cons_succ]; rfl
      obtain ⟨s0, s1, s2, s3, s4, s5⟩ := cells6 f11
      have s6 := frozen_of_row _ _ 0 _ _ f11
      have s7 := frozen_of_row _ _ 1 _ _ f11
      have s8 := frozen_of_row _ _ 2 _ _ f11
      have s9 := frozen_of_row _ _ 3 _ _ f11
      have s10 := frozen_of_row _ _ 4 _ _ f11
      have s11 := frozen_of_row _ _ 5 _ _ f11
      go_simp
      clear s0 s1 s2 s3 s4 s5 s6 s7 s8 s9 s10 s11
      refine hK.out _ _ (below_set6 hHeld lf11 (.int .i64 1) (.int .u32 0) (.slice (some ⟨b8, 0, none⟩) 1 1) (.slice none 0 0) (.slice none 0 0) (.slice none 0 0)) (fun hHeld => ?_)
      clear hK K
      replace f8 := (set6_ne (ne_of_obj f8 f11 (by simp)) (.int .i64 1) (.int .u32 0) (.slice (some ⟨b8, 0, none⟩) 1 1) (.slice none 0 0) (.slice none 0 0) (.slice none 0 0)).trans f8
      replace fg := (set6_ne (ne_of_obj fg f11 (by simp)) (.int .i64 1) (.int .u32 0) (.slice (some ⟨b8, 0, none⟩) 1 1) (.slice none 0 0) (.slice none 0 0) (.slice none 0 0)).trans fg
      replace fA := (set6_ne (ne_of_obj fA f11 (by simp)) (.int .i64 1) (.int .u32 0) (.slice (some ⟨b8, 0, none⟩) 1 1) (.slice none 0 0) (.slice none 0 0) (.slice none 0 0)).trans fA
      replace f10 := (set6_ne (ne) (.int .i64 1) (.int .u32 0) (.slice (some ⟨b8, 0, none⟩) 1 1) (.slice none 0 0) (.slice none 0 0) (.slice none 0 0)).trans f10
      replace f11 := set6 f11 (.int .i64 1) (.int .u32 0) (.slice (some ⟨b8, 0, none⟩) 1 1) (.slice none 0 0) (.slice none 0 0) (.slice none 0 0)
      generalize ((((((Z43.setCell ⟨i11, 0, none⟩ (.int .i64 1)).setCell ⟨i11, 1, none⟩ (.int .u32 0)).setCell ⟨i11, 2, none⟩ (.slice (some ⟨b8, 0, none⟩) 1 1)).setCell ⟨i11, 3, none⟩ (.slice none 0 0)).setCell ⟨i11, 4, none⟩ (.slice none 0 0)).setCell ⟨i11, 5, none⟩ (.slice none 0 0)) = Z44 at *
      refine wpAnyH_done (by kernel_rfl) ?_ _
      refine NoPanic.normal ?_
      show K _ _
      exact REST f10 f11 f8 fg fA hHeld
    refine AllReadyH.cons (o := ?oi60) ?hi60 (fun K hK => ?step60) ?more60
    case hi60 => simp only [List.getElem?_toArray, List.getElem?_cons_zero, List.getElem?_cons_succ]; rfl
    case step60 =>
      go_simp
      have lf10 := hHeld.size
      replace f8 := blk_up f8 (.cells #[.int .i64 0, .int .u32 0, .slice none 0 0, .slice none 0 0, .slice none 0 0, .slice none 0 0] 32)
      have f10 := heap_alloc_new Z35 (.cells #[.int .i64 0, .int .u32 0, .slice none 0 0, .slice none 0 0, .slice none 0 0, .slice none 0 0] 32)
      refine hK.out _ _ (below_alloc hHeld _) (fun hHeld => ?_)
      clear hK K
      (try simp only [Act.put, List.setIfInBounds_toArray, List.set_cons_zero, List.set_cons_succ])
      generalize Z35.alloc (.cells #[.int .i64 0, .int .u32 0, .slice none 0 0, .slice none 0 0, .slice none 0 0, .slice none 0 0] 32) = Z45 at *
      generalize Z35.heap.size = i10 at *
      refine wpAnyH_ready (rs := [6, 11]) (by kernel_rfl) (by simp) ?_
      refine AllReadyH.cons (o := ?oi61) ?hi61 (fun K hK => ?step61) ?more61
      case hi61 => simp only [List.getElem?_toArray, List.getElem?_cons_zero, List.getElem?_cons_succ]; rfl
      case step61 =>
        refine goes_ (N := some 35) Tryz.func5 (by kernel_rfl) rfl #[.float .f64 a0, .float .f64 a1, .float .f64 wd, .float .f64 hg] (by rfl) rfl rfl (by (try simp only [List.map_toArray, List.map_cons, List.map_nil]); rfl) ?_
        refine (HRc.out _).mono ?_
        rintro e Z46 ⟨g, gA, rfl, fg, fA, hb⟩
        refine ⟨_, rfl, ?_⟩
        replace f8 := (hb.block _ (blk_lt f8)).trans f8
        replace f10 := (hb.block _ (blk_lt f10)).trans f10
        refine hK.out _ _ (below_step hHeld hb) (fun hHeld => ?_)
        clear hK K hb
        simp only [Act.put, List.setIfInBounds_toArray, List.set_cons_zero, List.set_cons_succ]
        refine wpAnyH_ready (rs := [11]) (by kernel_rfl) (by simp) ?_
        refine AllReadyH.cons (o := ?oi62) ?hi62 (fun K hK => ?step62) AllReadyH.nil
        case hi62 => simp only [List.getElem?_toArray, List.getElem?_cons_zero, List.getElem?_cons_succ]; rfl
        go_simp
        have lf11 := hHeld.size
        have ne := Nat.ne_of_lt (blk_lt f10)
        replace f8 := blk_up f8 (.cells #[.int .i64 0, .int .u32 0, .slice none 0 0, .slice none 0 0, .slice none 0 0, .slice none 0 0] 32)
        replace f10 := blk_up f10 (.cells #[.int .i64 0, .int .u32 0, .slice none 0 0, .slice none 0 0, .slice none 0 0, .slice none 0 0] 32)
        replace fg := blk_up fg (.cells #[.int .i64 0, .int .u32 0, .slice none 0 0, .slice none 0 0, .slice none 0 0, .slice none 0 0] 32)
        replace fA := blk_up fA (.cells #[.int .i64 0, .int .u32 0, .slice none 0 0, .slice none 0 0, .slice none 0 0, .slice none 0 0] 32)
        have f11 := heap_alloc_new Z46 (.cells #[.int .i64 0, .int .u32 0, .slice none 0 0, .slice none 0 0, .slice none 0 0, .slice none 0 0] 32)
        refine hK.out _ _ (below_alloc hHeld _) (fun hHeld => ?_)
        clear hK K
        (try simp only [Act.put, List.setIfInBounds_toArray, List.set_cons_zero, List.set_cons_succ])
        generalize Z46.alloc (.cells #[.int .i64 0, .int .u32 0, .slice none 0 0, .slice none 0 0, .slice none 0 0, .slice none 0 0] 32) = Z47 at *
        generalize Z46.heap.size = i11 at *
        refine wpAnyH_ready (rs := [12]) (by kernel_rfl) (by simp) ?_
        refine AllReadyH.cons (o := ?oi63) ?hi63 (fun K hK => ?step63) AllReadyH.nil
        case hi63 => simp only [List.getElem?_toArray, List.getElem?_cons_zero, List.getElem?_cons_succ]; rfl
        obtain ⟨s0, s1, s2, s3, s4, s5⟩ := cells6 f10
        have s6 := frozen_of_row _ _ 0 _ _ f10
        have s7 := frozen_of_row _ _ 1 _ _ f10
        have s8 := frozen_of_row _ _ 2 _ _ f10
        have s9 := frozen_of_row _ _ 3 _ _ f10
        have s10 := frozen_of_row _ _ 4 _ _ f10
        have s11 := frozen_of_row _ _ 5 _ _ f10
        go_simp
        clear s0 s1 s2 s3 s4 s5 s6 s7 s8 s9 s10 s11
        refine hK.out _ _ (below_set6 hHeld lf10 (.int .i64 3) (.int .u32 0) (.slice none 0 0) (.slice (some ⟨g, 0, none⟩) 1 1) (.slice none 0 0) (.slice none 0 0)) (fun hHeld => ?_)
        clear hK K
        replace f8 := (set6_ne (ne_of_obj f8 f10 (by simp)) (.int .i64 3) (.int .u32 0) (.slice none 0 0) (.slice (some ⟨g, 0, none⟩) 1 1) (.slice none 0 0) (.slice none 0 0)).trans f8
        replace fg := (set6_ne (ne_of_obj fg f10 (by simp)) (.int .i64 3) (.int .u32 0) (.slice none 0 0) (.slice (some ⟨g, 0, none⟩) 1 1) (.slice none 0 0) (.slice none 0 0)).trans fg
        replace fA := (set6_ne (ne_of_obj fA f10 (by simp)) (.int .i64 3) (.int .u32 0) (.slice none 0 0) (.slice (some ⟨g, 0, none⟩) 1 1) (.slice none 0 0) (.slice none 0 0)).trans fA
        replace f11 := (set6_ne (Ne.symm ne) (.int .i64 3) (.int .u32 0) (.slice none 0 0) (.slice (some ⟨g, 0, none⟩) 1 1) (.slice none 0 0) (.slice none 0 0)).trans f11
        replace f10 := set6 f10 (.int .i64 3) (.int .u32 0) (.slice none 0 0) (.slice (some ⟨g, 0, none⟩) 1 1) (.slice none 0 0) (.slice none 0 0)
        generalize ((((((Z47.setCell ⟨i10, 0, none⟩ (.int .i64 3)).setCell ⟨i10, 1, none⟩ (.int .u32 0)).setCell ⟨i10, 2, none⟩ (.slice none 0 0)).setCell ⟨i10, 3, none⟩ (.slice (some ⟨g, 0, none⟩) 1 1)).setCell ⟨i10, 4, none⟩ (.slice none 0 0)).setCell ⟨i10, 5, none⟩ (.slice none 0 0)) = Z48 at *
        refine wpAnyH_ready (rs := [13]) (by kernel_rfl) (by simp) ?_
        refine AllReadyH.cons (o := ?oi64) ?hi64 (fun K hK => ?step64) AllReadyH.nil
        case hi64 => simp only [List.getElem?_toArray, List.getElem?_cons_zero, List.getElem?_cons_succ]; rfl
        obtain ⟨s0, s1, s2, s3, s4, s5⟩ := cells6 f11
        have s6 := frozen_of_row _ _ 0 _ _ f11
        have s7 := frozen_of_row _ _ 1 _ _ f11
        have s8 := frozen_of_row _ _ 2 _ _ f11
        have s9 := frozen_of_row _ _ 3 _ _ f11
        have s10 := frozen_of_row _ _ 4 _ _ f11
        have s11 := frozen_of_row _ _ 5 _ _ f11
        go_simp
        clear s0 s1 s2 s3 s4 s5 s6 s7 s8 s9 s10 s11
        refine hK.out _ _ (below_set6 hHeld lf11 (.int .i64 1) (.int .u32 0) (.slice (some ⟨b8, 0, none⟩) 1 1) (.slice none 0 0) (.slice none 0 0) (.slice none 0 0)) (fun hHeld => ?_)
        clear hK K
        replace f8 := (set6_ne (ne_of_obj f8 f11 (by simp)) (.int .i64 1) (.int .u32 0) (.slice (some ⟨b8, 0, none⟩) 1 1) (.slice none 0 0) (.slice none 0 0) (.slice none 0 0)).trans f8
        replace f10 := (set6_ne (ne) (.int .i64 1) (.int .u32 0) (.slice (some ⟨b8, 0, none⟩) 1 1) (.slice none 0 0) (.slice none 0 0) (.slice none 0 0)).trans f10
        replace fg := (set6_ne (ne_of_obj fg f11 (by simp)) (.int .i64 1) (.int .u32 0) (.slice (some ⟨b8, 0, none⟩) 1 1) (.slice none 0 0) (.slice none 0 0) (.slice none 0 0)).trans fg
        replace fA := (set6_ne (ne_of_obj fA f11 (by simp)) (.int .i64 1) (.int .u32 0) (.slice (some ⟨b8, 0, none⟩) 1 1) (.slice none 0 0) (.slice none 0 0) (.slice none 0 0)).trans fA
        replace f11 := set6 f11 (.int .i64 1) (.int .u32 0) (.slice (some ⟨b8, 0, none⟩) 1 1) (.slice none 0 0) (.slice none 0 0) (.slice none 0 0)
        generalize ((((((Z48.setCell ⟨i11, 0, none⟩ (.int .i64 1)).setCell ⟨i11, 1, none⟩ (.int .u32 0)).setCell ⟨i11, 2, none⟩ (.slice (some ⟨b8, 0, none⟩) 1 1)).setCell ⟨i11, 3, none⟩ (.slice none 0 0)).setCell ⟨i11, 4, none⟩ (.slice none 0 0)).setCell ⟨i11, 5, none⟩ (.slice none 0 0)) = Z49 at *
        refine wpAnyH_done (by kernel_rfl) ?_ _
        refine NoPanic.normal ?_
        show K _ _
        exact REST f10 f11 f8 fg fA hHeld
      refine AllReadyH.cons (o := ?oi65) ?hi65 (fun K hK => ?step65) AllReadyH.nil
      case hi65 => simp only [List.getElem?_toArray, List.getElem?_cons_zero, List.getElem?_cons_succ]; rfl
      go_simp
      have lf11 := hHeld.size
      have ne := Nat.ne_of_lt (blk_lt f10)
      replace f8 := blk_up f8 (.cells #[.int .i64 0, .int .u32 0, .slice none 0 0, .slice none 0 0, .slice none 0 0, .slice none 0 0] 32)
      replace f10 := blk_up f10 (.cells #[.int .i64 0, .int .u32 0, .slice none 0 0, .slice none 0 0, .slice none 0 0, .slice none 0 0] 32)
      have f11 := heap_alloc_new Z45 (.cells #[.int .i64 0, .int .u32 0, .slice none 0 0, .slice none 0 0, .slice none 0 0, .slice none 0 0] 32)
      refine hK.out _ _ (below_alloc hHeld _) (fun hHeld => ?_)
      clear hK K
      (try simp only [Act.put, List.setIfInBounds_toArray, List.set_cons_zero, List.set_cons_succ])
      generalize Z45.alloc (.cells #[.int .i64 0, .int .u32 0, .slice none 0 0, .slice none 0 0, .slice none 0 0, .slice none 0 0] 32) = Z50 at *
      generalize Z45.heap.size = i11 at *
      refine wpAnyH_ready (rs := [6]) (by kernel_rfl) (by simp) ?_
      refine AllReadyH.cons (o := ?oi66) ?hi66 (fun K hK => ?step66) AllReadyH.nil
      case hi66 => simp only [List.getElem?_toArray, List.getElem?_cons_zero, List.getElem?_cons_succ]; rfl
      refine goes_ (N := some 35) Tryz.func5 (by kernel_rfl) rfl #[.float .f64 a0, .float .f64 a1, .float .f64 wd, .float .f64 hg] (by rfl) rfl rfl (by (try simp only [List.map_toArray, List.map_cons, List.map_nil]); rfl) ?_
      refine (HRc.out _).mono ?_
      rintro e Z51 ⟨g, gA, rfl, fg, fA, hb⟩
      refine ⟨_, rfl, ?_⟩
      replace f8 := (hb.block _ (blk_lt f8)).trans f8
      replace f10 := (hb.block _ (blk_lt f10)).trans f10
      replace f11 := (hb.block _ (blk_lt f11)).trans f11
      refine hK.out _ _ (below_step hHeld hb) (fun hHeld => ?_)
      clear hK K hb
      simp only [Act.put, List.setIfInBounds_toArray, List.set_cons_zero, List.set_cons_succ]
      refine wpAnyH_ready (rs := [12]) (by kernel_rfl) (by simp) ?_
      refine AllReadyH.cons (o := ?oi67) ?hi67 (fun K hK => ?step67) AllReadyH.nil
      case hi67 => simp only [List.getElem?_toArray, List.getElem?_cons_zero, List.getElem?_cons_succ]; rfl
      obtain ⟨s0, s1, s2, s3, s4, s5⟩ := cells6 f10
      have s6 := frozen_of_row _ _ 0 _ _ f10
      have s7 := frozen_of_row _ _ 1 _ _ f10
      have s8 := frozen_of_row _ _ 2 _ _ f10
      have s9 := frozen_of_row _ _ 3 _ _ f10
      have s10 := frozen_of_row _ _ 4 _ _ f10
      have s11 := frozen_of_row _ _ 5 _ _ f10
      go_simp
      clear s0 s1 s2 s3 s4 s5 s6 s7 s8 s9 s10 s11
      refine hK.out _ _ (below_set6 hHeld lf10 (.int .i64 3) (.int .u32 0) (.slice none 0 0) (.slice (some ⟨g, 0, none⟩) 1 1) (.slice none 0 0) (.slice none 0 0)) (fun hHeld => ?_)
      clear hK K
      replace f8 := (set6_ne (ne_of_obj f8 f10 (by simp)) (.int .i64 3) (.int .u32 0) (.slice none 0 0) (.slice (some ⟨g, 0, none⟩) 1 1) (.slice none 0 0) (.slice none 0 0)).trans f8
      replace f11 := (set6_ne (Ne.symm ne) (.int .i64 3) (.int .u32 0) (.slice none 0 0) (.slice (some ⟨g, 0, none⟩) 1 1) (.slice none 0 0) (.slice none 0 0)).trans f11
      replace fg := (set6_ne (ne_of_obj fg f10 (by simp)) (.int .i64 3) (.int .u32 0) (.slice none 0 0) (.slice (some ⟨g, 0, none⟩) 1 1) (.slice none 0 0) (.slice none 0 0)).trans fg
      replace fA := (set6_ne (ne_of_obj fA f10 (by simp)) (.int .i64 3) (.int .u32 0) (.slice none 0 0) (.slice (some ⟨g, 0, none⟩) 1 1) (.slice none 0 0) (.slice none 0 0)).trans fA
      replace f10 := set6 f10 (.int .i64 3) (.int .u32 0) (.slice none 0 0) (.slice (some ⟨g, 0, none⟩) 1 1) (.slice none 0 0) (.slice none 0 0)
      generalize ((((((Z51.setCell ⟨i10, 0, none⟩ (.int .i64 3)).setCell ⟨i10, 1, none⟩ (.int .u32 0)).setCell ⟨i10, 2, none⟩ (.slice none 0 0)).setCell ⟨i10, 3, none⟩ (.slice (some ⟨g, 0, none⟩) 1 1)).setCell ⟨i10, 4, none⟩ (.slice none 0 0)).setCell ⟨i10, 5, none⟩ (.slice none 0 0)) = Z52 at *
      refine wpAnyH_ready (rs := [13]) (by kernel_rfl) (by simp) ?_
      refine AllReadyH.cons (o := ?oi68) ?hi68 (fun K hK => ?step68) AllReadyH.nil
      case hi68 => simp only [List.getElem?_toArray, List.getElem?_cons_zero, List.getElem?_cons_succ]; rfl
      obtain ⟨s0, s1, s2, s3, s4, s5⟩ := cells6 f11
      have s6 := frozen_of_row _ _ 0 _ _ f11
      have s7 := frozen_of_row _ _ 1 _ _ f11
      have s8 := frozen_of_row _ _ 2 _ _ f11
      have s9 := frozen_of_row _ _ 3 _ _ f11
      have s10 := frozen_of_row _ _ 4 _ _ f11
      have s11 := frozen_of_row _ _ 5 _ _ f11
      go_simp
      clear s0 s1 s2 s3 s4 s5 s6 s7 s8 s9 s10 s11
      refine hK.out _ _ (below_set6 hHeld lf11 (.int .i64 1) (.int .u32 0) (.slice (some ⟨b8, 0, none⟩) 1 1) (.slice none 0 0) (.slice none 0 0) (.slice none 0 0)) (fun hHeld => ?_)
      clear hK K
      replace f8 := (set6_ne (ne_of_obj f8 f11 (by simp)) (.int .i64 1) (.int .u32 0) (.slice (some ⟨b8, 0, none⟩) 1 1) (.slice none 0 0) (.slice none 0 0) (.slice none 0 0)).trans f8
      replace f10 := (set6_ne (ne) (.int .i64 1) (.int .u32 0) (.slice (some ⟨b8, 0, none⟩) 1 1) (.slice none 0 0) (.slice none 0 0) (.slice none 0 0)).trans f10
      replace fg := (set6_ne (ne_of_obj fg f11 (by simp)) (.int .i64 1) (.int .u32 0) (.slice (some ⟨b8, 0, none⟩) 1 1) (.slice none 0 0) (.slice none 0 0) (.slice none 0 0)).trans fg
      replace fA := (set6_ne (ne_of_obj fA f11 (by simp)) (.int .i64 1) (.int .u32 0) (.slice (some ⟨b8, 0, none⟩) 1 1) (.slice none 0 0) (.slice none 0 0) (.slice none 0 0)).trans fA
      replace f11 := set6 f11 (.int .i64 1) (.int .u32 0) (.slice (some ⟨b8, 0, none⟩) 1 1) (.slice none 0 0) (.slice none 0 0) (.slice none 0 0)
      generalize ((((((Z52.setCell ⟨i11, 0, none⟩ (.int .i64 1)).setCell ⟨i11, 1, none⟩ (.int .u32 0)).setCell ⟨i11, 2, none⟩ (.slice (some ⟨b8, 0, none⟩) 1 1)).setCell ⟨i11, 3, none⟩ (.slice none 0 0)).setCell ⟨i11, 4, none⟩ (.slice none 0 0)).setCell ⟨i11, 5, none⟩ (.slice none 0 0)) = Z53 at *
      refine wpAnyH_done (by kernel_rfl) ?_ _
      refine NoPanic.normal ?_
      show K _ _
      exact REST f10 f11 f8 fg fA hHeld
    refine AllReadyH.cons (o := ?oi69) ?hi69 (fun K hK => ?step69) AllReadyH.nil
    case hi69 => simp only [List.getElem?_toArray, List.getElem?_cons_zero, List.getElem?_cons_succ]; rfl
    go_simp
    have lf11 := hHeld.size
    replace f8 := blk_up f8 (.cells #[.int .i64 0, .int .u32 0, .slice none 0 0, .slice none 0 0, .slice none 0 0, .slice none 0 0] 32)
    have f11 := heap_alloc_new Z35 (.cells #[.int .i64 0, .int .u32 0, .slice none 0 0, .slice none 0 0, .slice none 0 0, .slice none 0 0] 32)
    refine hK.out _ _ (below_alloc hHeld _) (fun hHeld => ?_)
    clear hK K
    (try simp only [Act.put, List.setIfInBounds_toArray, List.set_cons_zero, List.set_cons_succ])
    generalize Z35.alloc (.cells #[.int .i64 0, .int .u32 0, .slice none 0 0, .slice none 0 0, .slice none 0 0, .slice none 0 0] 32) = Z54 at *
    generalize Z35.heap.size = i11 at *
    refine wpAnyH_ready (rs := [6, 10]) (by kernel_rfl) (by simp) ?_
    refine AllReadyH.cons (o := ?oi70) ?hi70 (fun K hK => ?step70) ?more70
    case hi70 => simp only [List.getElem?_toArray, List.getElem?_cons_zero, List.getElem?_cons_succ]; rfl
    case step70 =>
      refine goes_ (N := some 35) Tryz.func5 (by kernel_rfl) rfl #[.float .f64 a0, .float .f64 a1, .float .f64 wd, .float .f64 hg] (by rfl) rfl rfl (by (try simp only [List.map_toArray, List.map_cons, List.map_nil]); rfl) ?_
      refine (HRc.out _).mono ?_
      rintro e Z55 ⟨g, gA, rfl, fg, fA, hb⟩
      refine ⟨_, rfl, ?_⟩
      replace f8 := (hb.block _ (blk_lt f8)).trans f8
      replace f11 := (hb.block _ (blk_lt f11)).trans f11
      refine hK.out _ _ (below_step hHeld hb) (fun hHeld => ?_)
      clear hK K hb
      simp only [Act.put, List.setIfInBounds_toArray, List.set_cons_zero, List.set_cons_succ]
      refine wpAnyH_ready (rs := [10]) (by kernel_rfl) (by simp) ?_
      refine AllReadyH.cons (o := ?oi71) ?hi71 (fun K hK => ?step71) AllReadyH.nil
      case hi71 => simp only [List.getElem?_toArray, List.getElem?_cons_zero, List.getElem?_cons_succ]; rfl
      go_simp
      have lf10 := hHeld.size
      have ne := Nat.ne_of_gt (blk_lt f11)
      replace f8 := blk_up f8 (.cells #[.int .i64 0, .int .u32 0, .slice none 0 0, .slice none 0 0, .slice none 0 0, .slice none 0 0] 32)
      replace f11 := blk_up f11 (.cells #[.int .i64 0, .int .u32 0, .slice none 0 0, .slice none 0 0, .slice none 0 0, .slice none 0 0] 32)
      replace fg := blk_up fg (.cells #[.int .i64 0, .int .u32 0, .slice none 0 0, .slice none 0 0, .slice none 0 0, .slice none 0 0] 32)
      replace fA := blk_up fA (.cells #[.int .i64 0, .int .u32 0, .slice none 0 0, .slice none 0 0, .slice none 0 0, .slice none 0 0] 32)
      have f10 := heap_alloc_new Z55 (.cells #[.int .i64 0, .int .u32 0, .slice none 0 0, .slice none 0 0, .slice none 0 0, .slice none 0 0] 32)
      refine hK.out _ _ (below_alloc hHeld _) (fun hHeld => ?_)
      clear hK K
      (try simp only [Act.put, List.setIfInBounds_toArray, List.set_cons_zero, List.set_cons_succ])
      generalize Z55.alloc (.cells #[.int .i64 0, .int .u32 0, .slice none 0 0, .slice none 0 0, .slice none 0 0, .slice none 0 0] 32) = Z56 at *
      generalize Z55.heap.size = i10 at *
      refine wpAnyH_ready (rs := [12]) (by kernel_rfl) (by simp) ?_
      refine AllReadyH.cons (o := ?oi72) ?hi72 (fun K hK => ?step72) AllReadyH.nil
      case hi72 => simp only [List.getElem?_toArray, List.getElem?_cons_zero, List.getElem?_cons_succ]; rfl
      obtain ⟨s0, s1, s2, s3, s4, s5⟩ := cells6 f10
      have s6 := frozen_of_row _ _ 0 _ _ f10
      have s7 := frozen_of_row _ _ 1 _ _ f10
      have s8 := frozen_of_row _ _ 2 _ _ f10
      have s9 := frozen_of_row _ _ 3 _ _ f10
      have s10 := frozen_of_row _ _ 4 _ _ f10
      have s11 := frozen_of_row _ _ 5 _ _ f10
      go_simp
      clear s0 s1 s2 s3 s4 s5 s6 s7 s8 s9 s10 s11
      refine hK.out _ _ (below_set6 hHeld lf10 (.int .i64 3) (.int .u32 0) (.slice none 0 0) (.slice (some ⟨g, 0, none⟩) 1 1) (.slice none 0 0) (.slice none 0 0)) (fun hHeld => ?_)
      clear hK K
      replace f8 := (set6_ne (ne_of_obj f8 f10 (by simp)) (.int .i64 3) (.int .u32 0) (.slice none 0 0) (.slice (some ⟨g, 0, none⟩) 1 1) (.slice none 0 0) (.slice none 0 0)).trans f8
      replace f11 := (set6_ne (Ne.symm ne) (.int .i64 3) (.int .u32 0) (.slice none 0 0) (.slice (some ⟨g, 0, none⟩) 1 1) (.slice none 0 0) (.slice none 0 0)).trans f11
      replace fg := (set6_ne (ne_of_obj fg f10 (by simp)) (.int .i64 3) (.int .u32 0) (.slice none 0 0) (.slice (some ⟨g, 0, none⟩) 1 1) (.slice none 0 0) (.slice none 0 0)).trans fg
      replace fA := (set6_ne (ne_of_obj fA f10 (by simp)) (.int .i64 3) (.int .u32 0) (.slice none 0 0) (.slice (some ⟨g, 0, none⟩) 1 1) (.slice none 0 0) (.slice none 0 0)).trans fA
      replace f10 := set6 f10 (.int .i64 3) (.int .u32 0) (.slice none 0 0) (.slice (some ⟨g, 0, none⟩) 1 1) (.slice none 0 0) (.slice none 0 0)
      generalize ((((((Z56.setCell ⟨i10, 0, none⟩ (.int .i64 3)).setCell ⟨i10, 1, none⟩ (.int .u32 0)).setCell ⟨i10, 2, none⟩ (.slice none 0 0)).setCell ⟨i10, 3, none⟩ (.slice (some ⟨g, 0, none⟩) 1 1)).setCell ⟨i10, 4, none⟩ (.slice none 0 0)).setCell ⟨i10, 5, none⟩ (.slice none 0 0)) = Z57 at *
      refine wpAnyH_ready (rs := [13]) (by kernel_rfl) (by simp) ?_
      refine AllReadyH.cons (o := ?oi73) ?hi73 (fun K hK => ?step73) AllReadyH.nil
      case hi73 => simp only [List.getElem?_toArray, List.getElem?_cons_zero, List.getElem?_cons_succ]; rfl
      obtain ⟨s0, s1, s2, s3, s4, s5⟩ := cells6 f11
      have s6 := frozen_of_row _ _ 0 _ _ f11
      have s7 := frozen_of_row _ _ 1 _ _ f11
      have s8 := frozen_of_row _ _ 2 _ _ f11
      have s9 := frozen_of_row _ _ 3 _ _ f11
      have s10 := frozen_of_row _ _ 4 _ _ f11
      have s11 := frozen_of_row _ _ 5 _ _ f11
      go_simp
      clear s0 s1 s2 s3 s4 s5 s6 s7 s8 s9 s10 s11
      refine hK.out _ _ (below_set6 hHeld lf11 (.int .i64 1) (.int .u32 0) (.slice (some ⟨b8, 0, none⟩) 1 1) (.slice none 0 0) (.slice none 0 0) (.slice none 0 0)) (fun hHeld => ?_)
      clear hK K
      replace f8 := (set6_ne (ne_of_obj f8 f11 (by simp)) (.int .i64 1) (.int .u32 0) (.slice (some ⟨b8, 0, none⟩) 1 1) (.slice none 0 0) (.slice none 0 0) (.slice none 0 0)).trans f8
      replace fg := (set6_ne (ne_of_obj fg f11 (by simp)) (.int .i64 1) (.int .u32 0) (.slice (some ⟨b8, 0, none⟩) 1 1) (.slice none 0 0) (.slice none 0 0) (.slice none 0 0)).trans fg
      replace fA := (set6_ne (ne_of_obj fA f11 (by simp)) (.int .i64 1) (.int .u32 0) (.slice (some ⟨b8, 0, none⟩) 1 1) (.slice none 0 0) (.slice none 0 0) (.slice none 0 0)).trans fA
      replace f10 := (set6_ne (ne) (.int .i64 1) (.int .u32 0) (.slice (some ⟨b8, 0, none⟩) 1 1) (.slice none 0 0) (.slice none 0 0) (.slice none 0 0)).trans f10
      replace f11 := set6 f11 (.int .i64 1) (.int .u32 0) (.slice (some ⟨b8, 0, none⟩) 1 1) (.slice none 0 0) (.slice none 0 0) (.slice none 0 0)
      generalize ((((((Z57.setCell ⟨i11, 0, none⟩ (.int .i64 1)).setCell ⟨i11, 1, none⟩ (.int .u32 0)).setCell ⟨i11, 2, none⟩ (.slice (some ⟨b8, 0, none⟩) 1 1)).setCell ⟨i11, 3, none⟩ (.slice none 0 0)).setCell ⟨i11, 4, none⟩ (.slice none 0 0)).setCell ⟨i11, 5, none⟩ (.slice none 0 0)) = Z58 at *
      refine wpAnyH_done (by kernel_rfl) ?_ _
      refine NoPanic.normal ?_
      show K _ _
      exact REST f10 f11 f8 fg fA hHeld
    refine AllReadyH.cons (o := ?oi74) ?hi74 (fun K hK => ?step74) AllReadyH.nil
    case hi74 => simp only [List.getElem?_toArray, List.getElem?_cons_zero, List.getElem?_cons_succ]; rfl
    go_simp
    have lf10 := hHeld.size
    have ne := Nat.ne_of_gt (blk_lt f11)
    replace f8 := blk_up f8 (.cells #[.int .i64 0, .int .u32 0, .slice none 0 0, .slice none 0 0, .slice none 0 0, .slice none 0 0] 32)
    replace f11 := blk_up f11 (.cells #[.int .i64 0, .int .u32 0, .slice none 0 0, .slice none 0 0, .slice none 0 0, .slice none 0 0] 32)
    have f10 := heap_alloc_new Z54 (.cells #[.int .i64 0, .int .u32 0, .slice none 0 0, .slice none 0 0, .slice none 0 0, .slice none 0 0] 32)
    refine hK.out _ _ (below_alloc hHeld _) (fun hHeld => ?_)
    clear hK K
    (try simp only [Act.put, List.setIfInBounds_toArray, List.set_cons_zero, List.set_cons_succ])
    generalize Z54.alloc (.cells #[.int .i64 0, .int .u32 0, .slice none 0 0, .slice none 0 0, .slice none 0 0, .slice none 0 0] 32) = Z59 at *
    generalize Z54.heap.size = i10 at *
    refine wpAnyH_ready (rs := [6]) (by kernel_rfl) (by simp) ?_
    refine AllReadyH.cons (o := ?oi75) ?hi75 (fun K hK => ?step75) AllReadyH.nil
    case hi75 => simp only [List.getElem?_toArray, List.getElem?_cons_zero, List.getElem?_cons_succ]; rfl
    refine goes_ (N := some 35) Tryz.func5 (by kernel_rfl) rfl #[.float .f64 a0, .float .f64 a1, .float .f64 wd, .float .f64 hg] (by rfl) rfl rfl (by (try simp only [List.map_toArray, List.map_cons, List.map_nil]); rfl) ?_
    refine (HRc.out _).mono ?_
    rintro e Z60 ⟨g, gA, rfl, fg, fA, hb⟩
    refine ⟨_, rfl, ?_⟩
    replace f8 := (hb.block _ (blk_lt f8)).trans f8
    replace f11 := (hb.block _ (blk_lt f11)).trans f11
    replace f10 := (hb.block _ (blk_lt f10)).trans f10
    refine hK.out _ _ (below_step hHeld hb) (fun hHeld => ?_)
    clear hK K hb
    simp only [Act.put, List.setIfInBounds_toArray, List.set_cons_zero, List.set_cons_succ]
    refine wpAnyH_ready (rs := [12]) (by kernel_rfl) (by simp) ?_
    refine AllReadyH.cons (o := ?oi76) ?hi76 (fun K hK => ?step76) AllReadyH.nil
    case hi76 => simp only [List.getElem?_toArray, List.getElem?_cons_zero, List.getElem?_cons_succ]; rfl
    obtain ⟨s0, s1, s2, s3, s4, s5⟩ := cells6 f10
    have s6 := frozen_of_row _ _ 0 _ _ f10
    have s7 := frozen_of_row _ _ 1 _ _ f10
    have s8 := frozen_of_row _ _ 2 _ _ f10
    have s9 := frozen_of_row _ _ 3 _ _ f10
    have s10 := frozen_of_row _ _ 4 _ _ f10
    have s11 := frozen_of_row _ _ 5 _ _ f10
    go_simp
    clear s0 s1 s2 s3 s4 s5 s6 s7 s8 s9 s10 s11
    refine hK.out _ _ (below_set6 hHeld lf10 (.int .i64 3) (.int .u32 0) (.slice none 0 0) (.slice (some ⟨g, 0, none⟩) 1 1) (.slice none 0 0) (.slice none 0 0)) (fun hHeld => ?_)
    clear hK K
    replace f8 := (set6_ne (ne_of_obj f8 f10 (by simp)) (.int .i64 3) (.int .u32 0) (.slice none 0 0) (.slice (some ⟨g, 0, none⟩) 1 1) (.slice none 0 0) (.slice none 0 0)).trans f8
    replace f11 := (set6_ne (Ne.symm ne) (.int .i64 3) (.int .u32 0) (.slice none 0 0) (.slice (some ⟨g, 0, none⟩) 1 1) (.slice none 0 0) (.slice none 0 0)).trans f11
    replace fg := (set6_ne (ne_of_obj fg f10 (by simp)) (.int .i64 3) (.int .u32 0) (.slice none 0 0) (.slice (some ⟨g, 0, none⟩) 1 1) (.slice none 0 0) (.slice none 0 0)).trans fg
    replace fA := (set6_ne (ne_of_obj fA f10 (by simp)) (.int .i64 3) (.int .u32 0) (.slice none 0 0) (.slice (some ⟨g, 0, none⟩) 1 1) (.slice none 0 0) (.slice none 0 0)).trans fA
    replace f10 := set6 f10 (.int .i64 3) (.int .u32 0) (.slice none 0 0) (.slice (some ⟨g, 0, none⟩) 1 1) (.slice none 0 0) (.slice none 0 0)
    generalize ((((((Z60.setCell ⟨i10, 0, none⟩ (.int .i64 3)).setCell ⟨i10, 1, none⟩ (.int .u32 0)).setCell ⟨i10, 2, none⟩ (.slice none 0 0)).setCell ⟨i10, 3, none⟩ (.slice (some ⟨g, 0, none⟩) 1 1)).setCell ⟨i10, 4, none⟩ (.slice none 0 0)).setCell ⟨i10, 5, none⟩ (.slice none 0 0)) = Z61 at *
    refine wpAnyH_ready (rs := [13]) (by kernel_rfl) (by simp) ?_
    refine AllReadyH.cons (o := ?oi77) ?hi77 (fun K hK => ?step77) AllReadyH.nil
    case hi77 => simp only [List.getElem?_toArray, List.getElem?_cons_zero, List.getElem?_cons_succ]; rfl
    obtain ⟨s0, s1, s2, s3, s4, s5⟩ := cells6 f11
    have s6 := frozen_of_row _ _ 0 _ _ f11
    have s7 := frozen_of_row _ _ 1 _ _ f11
    have s8 := frozen_of_row _ _ 2 _ _ f11
    have s9 := frozen_of_row _ _ 3 _ _ f11
    have s10 := frozen_of_row _ _ 4 _ _ f11
    have s11 := frozen_of_row _ _ 5 _ _ f11
    go_simp
    clear s0 s1 s2 s3 s4 s5 s6 s7 s8 s9 s10 s11
    refine hK.out _ _ (below_set6 hHeld lf11 (.int .i64 1) (.int .u32 0) (.slice (some ⟨b8, 0, none⟩) 1 1) (.slice none 0 0) (.slice none 0 0) (.slice none 0 0)) (fun hHeld => ?_)
    clear hK K
    replace f8 := (set6_ne (ne_of_obj f8 f11 (by simp)) (.int .i64 1) (.int .u32 0) (.slice (some ⟨b8, 0, none⟩) 1 1) (.slice none 0 0) (.slice none 0 0) (.slice none 0 0)).trans f8
    replace f10 := (set6_ne (ne) (.int .i64 1) (.int .u32 0) (.slice (some ⟨b8, 0, none⟩) 1 1) (.slice none 0 0) (.slice none 0 0) (.slice none 0 0)).trans f10
    replace fg := (set6_ne (ne_of_obj fg f11 (by simp)) (.int .i64 1) (.int .u32 0) (.slice (some ⟨b8, 0, none⟩) 1 1) (.slice none 0 0) (.slice none 0 0) (.slice none 0 0)).trans fg
    replace fA := (set6_ne (ne_of_obj fA f11 (by simp)) (.int .i64 1) (.int .u32 0) (.slice (some ⟨b8, 0, none⟩) 1 1) (.slice none 0 0) (.slice none 0 0) (.slice none 0 0)).trans fA
    replace f11 := set6 f11 (.int .i64 1) (.int .u32 0) (.slice (some ⟨b8, 0, none⟩) 1 1) (.slice none 0 0) (.slice none 0 0) (.slice none 0 0)
    generalize ((((((Z61.setCell ⟨i11, 0, none⟩ (.int .i64 1)).setCell ⟨i11, 1, none⟩ (.int .u32 0)).setCell ⟨i11, 2, none⟩ (.slice (some ⟨b8, 0, none⟩) 1 1)).setCell ⟨i11, 3, none⟩ (.slice none 0 0)).setCell ⟨i11, 4, none⟩ (.slice none 0 0)).setCell ⟨i11, 5, none⟩ (.slice none 0 0)) = Z62 at *
    refine wpAnyH_done (by kernel_rfl) ?_ _
    refine NoPanic.normal ?_
    show K _ _
    exact REST f10 f11 f8 fg fA hHeld
  refine AllReadyH.cons (o := ?oi78) ?hi78 (fun K hK => ?step78) ?more78
  case hi78 => simp only [List.getElem?_toArray, List.getElem?_cons_zero, List.getElem?_cons_succ]; rfl
  case step78 =>
    go_simp
    have lf10 := hHeld.size
    have f10 := heap_alloc_new Z0 (.cells #[.int .i64 0, .int .u32 0, .slice none 0 0, .slice none 0 0, .slice none 0 0, .slice none 0 0] 32)
    refine hK.out _ _ (below_alloc hHeld _) (fun hHeld => ?_)
    clear hK K
    (try simp only [Act.put, List.setIfInBounds_toArray, List.set_cons_zero, List.set_cons_succ])
    generalize Z0.alloc (.cells #[.int .i64 0, .int .u32 0, .slice none 0 0, .slice none 0 0, .slice none 0 0, .slice none 0 0] 32) = Z63 at *
    generalize Z0.heap.size = i10 at *
    refine wpAnyH_ready (rs := [6, 8, 11]) (by kernel_rfl) (by simp) ?_
    refine AllReadyH.cons (o := ?oi79) ?hi79 (fun K hK => ?step79) ?more79
    case hi79 => simp only [List.getElem?_toArray, List.getElem?_cons_zero, List.getElem?_cons_succ]; rfl
    case step79 =>
      refine goes_ (N := some 35) Tryz.func5 (by kernel_rfl) rfl #[.float .f64 a0, .float .f64 a1, .float .f64 wd, .float .f64 hg] (by rfl) rfl rfl (by (try simp only [List.map_toArray, List.map_cons, List.map_nil]); rfl) ?_
      refine (HRc.out _).mono ?_
      rintro e Z64 ⟨g, gA, rfl, fg, fA, hb⟩
      refine ⟨_, rfl, ?_⟩
      replace f10 := (hb.block _ (blk_lt f10)).trans f10
      refine hK.out _ _ (below_step hHeld hb) (fun hHeld => ?_)
      clear hK K hb
      simp only [Act.put, List.setIfInBounds_toArray, List.set_cons_zero, List.set_cons_succ]
      refine wpAnyH_ready (rs := [8, 11]) (by kernel_rfl) (by simp) ?_
      refine AllReadyH.cons (o := ?oi80) ?hi80 (fun K hK => ?step80) ?more80
      case hi80 => simp only [List.getElem?_toArray, List.getElem?_cons_zero, List.getElem?_cons_succ]; rfl
      case step80 =>
        go_simp
        have lf8 := hHeld.size
        replace f10 := blk_up f10 (.cells #[.float .f64 p0, .float .f64 p1] 24)
        replace fg := blk_up fg (.cells #[.float .f64 p0, .float .f64 p1] 24)
        replace fA := blk_up fA (.cells #[.float .f64 p0, .float .f64 p1] 24)
        have f8 := heap_alloc_new Z64 (.cells #[.float .f64 p0, .float .f64 p1] 24)
        refine hK.out _ _ (below_alloc hHeld _) (fun hHeld => ?_)
        clear hK K
        (try simp only [Act.put, List.setIfInBounds_toArray, List.set_cons_zero, List.set_cons_succ])
        generalize Z64.alloc (.cells #[.float .f64 p0, .float .f64 p1] 24) = Z65 at *
        generalize Z64.heap.size = b8 at *
        refine take_ (oi := ?oi81) (i := 9) (N := some 38) (v := ?v81) ?hi81 (by kernel_rfl) (by kernel_rfl) (by kernel_rfl) ?hQ81 ?hN81 (Or.inl ⟨?hw81, ?hy81⟩) hHeld ?rest81
        case hi81 => simp only [List.getElem?_toArray, List.getElem?_cons_zero, List.getElem?_cons_succ]; rfl
        case hQ81 => exact fun _ _ _ h => h
        case hN81 => rfl
        case hw81 => rfl
        case hy81 => intro W hSw; have z0 := pw_cell_below (show Below _ _ W from hSw) q0; have z1 := pw_cell_below (show Below _ _ W from hSw) q1; have z2 := pw_cell_below (show Below _ _ W from hSw) q2; have z3 := pw_cell_below (show Below _ _ W from hSw) q3; go_simp; (try with_reducible rfl)
        simp only [Act.put, List.setIfInBounds_toArray, List.set_cons_zero, List.set_cons_succ]
        refine wpAnyH_ready (rs := [11]) (by kernel_rfl) (by simp) ?_
        refine AllReadyH.cons (o := ?oi82) ?hi82 (fun K hK => ?step82) AllReadyH.nil
        case hi82 => simp only [List.getElem?_toArray, List.getElem?_cons_zero, List.getElem?_cons_succ]; rfl
        go_simp
        have lf11 := hHeld.size
        have ne := Nat.ne_of_lt (blk_lt f10)
        replace f10 := blk_up f10 (.cells #[.int .i64 0, .int .u32 0, .slice none 0 0, .slice none 0 0, .slice none 0 0, .slice none 0 0] 32)
        replace fg := blk_up fg (.cells #[.int .i64 0, .int .u32 0, .slice none 0 0, .slice none 0 0, .slice none 0 0, .slice none 0 0] 32)
        replace fA := blk_up fA (.cells #[.int .i64 0, .int .u32 0, .slice none 0 0, .slice none 0 0, .slice none 0 0, .slice none 0 0] 32)
        replace f8 := blk_up f8 (.cells #[.int .i64 0, .int .u32 0, .slice none 0 0, .slice none 0 0, .slice none 0 0, .slice none 0 0] 32)
        have f11 := heap_alloc_new Z65 (.cells #[.int .i64 0, .int .u32 0, .slice none 0 0, .slice none 0 0, .slice none 0 0, .slice none 0 0] 32)
        refine hK.out _ _ (below_alloc hHeld _) (fun hHeld => ?_)
        clear hK K
        (try simp only [Act.put, List.setIfInBounds_toArray, List.set_cons_zero, List.set_cons_succ])
        generalize Z65.alloc (.cells #[.int .i64 0, .int .u32 0, .slice none 0 0, .slice none 0 0, .slice none 0 0, .slice none 0 0] 32) = Z66 at *
        generalize Z65.heap.size = i11 at *
        refine wpAnyH_ready (rs := [12]) (by kernel_rfl) (by simp) ?_
        refine AllReadyH.cons (o := ?oi83) ?hi83 (fun K hK => ?step83) AllReadyH.nil
        case hi83 => simp only [List.getElem?_toArray, List.getElem?_cons_zero, List.getElem?_cons_succ]; rfl
        obtain ⟨s0, s1, s2, s3, s4, s5⟩ := cells6 f10
        have s6 := frozen_of_row _ _ 0 _ _ f10
        have s7 := frozen_of_row _ _ 1 _ _ f10
        have s8 := frozen_of_row _ _ 2 _ _ f10
        have s9 := frozen_of_row _ _ 3 _ _ f10
        have s10 := frozen_of_row _ _ 4 _ _ f10
        have s11 := frozen_of_row _ _ 5 _ _ f10
        go_simp
        clear s0 s1 s2 s3 s4 s5 s6 s7 s8 s9 s10 s11
        refine hK.out _ _ (below_set6 hHeld lf10 (.int .i64 3) (.int .u32 0) (.slice none 0 0) (.slice (some ⟨g, 0, none⟩) 1 1) (.slice none 0 0) (.slice none 0 0)) (fun hHeld => ?_)
        clear hK K
        replace fg := (set6_ne (ne_of_obj fg f10 (by simp)) (.int .i64 3) (.int .u32 0) (.slice none 0 0) (.slice (some ⟨g, 0, none⟩) 1 1) (.slice none 0 0) (.slice none 0 0)).trans fg
        replace fA := (set6_ne (ne_of_obj fA f10 (by simp)) (.int .i64 3) (.int .u32 0) (.slice none 0 0) (.slice (some ⟨g, 0, none⟩) 1 1) (.slice none 0 0) (.slice none 0 0)).trans fA
        replace f8 := (set6_ne (ne_of_obj f8 f10 (by simp)) (.int .i64 3) (.int .u32 0) (.slice none 0 0) (.slice (some ⟨g, 0, none⟩) 1 1) (.slice none 0 0) (.slice none 0 0)).trans f8
        replace f11 := (set6_ne (Ne.symm ne) (.int .i64 3) (.int .u32 0) (.slice none 0 0) (.slice (some ⟨g, 0, none⟩) 1 1) (.slice none 0 0) (.slice none 0 0)).trans f11
        replace f10 := set6 f10 (.int .i64 3) (.int .u32 0) (.slice none 0 0) (.slice (some ⟨g, 0, none⟩) 1 1) (.slice none 0 0) (.slice none 0 0)
        generalize ((((((Z66.setCell ⟨i10, 0, none⟩ (.int .i64 3)).setCell ⟨i10, 1, none⟩ (.int .u32 0)).setCell ⟨i10, 2, none⟩ (.slice none 0 0)).setCell ⟨i10, 3, none⟩ (.slice (some ⟨g, 0, none⟩) 1 1)).setCell ⟨i10, 4, none⟩ (.slice none 0 0)).setCell ⟨i10, 5, none⟩ (.slice none 0 0)) = Z67 at *
        refine wpAnyH_ready (rs := [13]) (by kernel_rfl) (by simp) ?_
        refine AllReadyH.cons (o := ?oi84) ?hi84 (fun K hK => ?step84) AllReadyH.nil
        case hi84 => simp only [List.getElem?_toArray, List.getElem?_cons_zero, List.getElem?_cons_succ]; rfl
        obtain ⟨s0, s1, s2, s3, s4, s5⟩ := cells6 f11
        have s6 := frozen_of_row _ _ 0 _ _ f11
        have s7 := frozen_of_row _ _ 1 _ _ f11
        have s8 := frozen_of_row _ _ 2 _ _ f11
        have s9 := frozen_of_row _ _ 3 _ _ f11
        have s10 := frozen_of_row _ _ 4 _ _ f11
        have s11 := frozen_of_row _ _ 5 _ _ f11
        go_simp
        clear s0 s1 s2 s3 s4 s5 s6 s7 s8 s9 s10 s11
        refine hK.out _ _ (below_set6 hHeld lf11 (.int .i64 1) (.int .u32 0) (.slice (some ⟨b8, 0, none⟩) 1 1) (.slice none 0 0) (.slice none 0 0) (.slice none 0 0)) (fun hHeld => ?_)
        clear hK K
        replace f10 := (set6_ne (ne) (.int .i64 1) (.int .u32 0) (.slice (some ⟨b8, 0, none⟩) 1 1) (.slice none 0 0) (.slice none 0 0) (.slice none 0 0)).trans f10
        replace fg := (set6_ne (ne_of_obj fg f11 (by simp)) (.int .i64 1) (.int .u32 0) (.slice (some ⟨b8, 0, none⟩) 1 1) (.slice none 0 0) (.slice none 0 0) (.slice none 0 0)).trans fg
        replace fA := (set6_ne (ne_of_obj fA f11 (by simp)) (.int .i64 1) (.int .u32 0) (.slice (some ⟨b8, 0, none⟩) 1 1) (.slice none 0 0) (.slice none 0 0) (.slice none 0 0)).trans fA
        replace f8 := (set6_ne (ne_of_obj f8 f11 (by simp)) (.int .i64 1) (.int .u32 0) (.slice (some ⟨b8, 0, none⟩) 1 1) (.slice none 0 0) (.slice none 0 0) (.slice none 0 0)).trans f8
        replace f11 := set6 f11 (.int .i64 1) (.int .u32 0) (.slice (some ⟨b8, 0, none⟩) 1 1) (.slice none 0 0) (.slice none 0 0) (.slice none 0 0)
        generalize ((((((Z67.setCell ⟨i11, 0, none⟩ (.int .i64 1)).setCell ⟨i11, 1, none⟩ (.int .u32 0)).setCell ⟨i11, 2, none⟩ (.slice (some ⟨b8, 0, none⟩) 1 1)).setCell ⟨i11, 3, none⟩ (.slice none 0 0)).setCell ⟨i11, 4, none⟩ (.slice none 0 0)).setCell ⟨i11, 5, none⟩ (.slice none 0 0)) = Z68 at *
        refine wpAnyH_done (by kernel_rfl) ?_ _
        refine NoPanic.normal ?_
        show K _ _
        exact REST f10 f11 f8 fg fA hHeld
      refine AllReadyH.cons (o := ?oi85) ?hi85 (fun K hK => ?step85) AllReadyH.nil
      case hi85 => simp only [List.getElem?_toArray, List.getElem?_cons_zero, List.getElem?_cons_succ]; rfl
      go_simp
      have lf11 := hHeld.size
      have ne := Nat.ne_of_lt (blk_lt f10)
      replace f10 := blk_up f10 (.cells #[.int .i64 0, .int .u32 0, .slice none 0 0, .slice none 0 0, .slice none 0 0, .slice none 0 0] 32)
      replace fg := blk_up fg (.cells #[.int .i64 0, .int .u32 0, .slice none 0 0, .slice none 0 0, .slice none 0 0, .slice none 0 0] 32)
      replace fA := blk_up fA (.cells #[.int .i64 0, .int .u32 0, .slice none 0 0, .slice none 0 0, .slice none 0 0, .slice none 0 0] 32)
      have f11 := heap_alloc_new Z64 (.cells #[.int .i64 0, .int .u32 0, .slice none 0 0, .slice none 0 0, .slice none 0 0, .slice none 0 0] 32)
      refine hK.out _ _ (below_alloc hHeld _) (fun hHeld => ?_)
      clear hK K
      (try simp only [Act.put, List.setIfInBounds_toArray, List.set_cons_zero, List.set_cons_succ])
      generalize Z64.alloc (.cells #[.int .i64 0, .int .u32 0, .slice none 0 0, .slice none 0 0, .slice none 0 0, .slice none 0 0] 32) = Z69 at *
      generalize Z64.heap.size = i11 at *
      refine wpAnyH_ready (rs := [8, 12]) (by kernel_rfl) (by simp) ?_
      refine AllReadyH.cons (o := ?oi86) ?hi86 (fun K hK => ?step86) ?more86
      case hi86 => simp only [List.getElem?_toArray, List.getElem?_cons_zero, List.getElem?_cons_succ]; rfl
      case step86 =>
        go_simp
        have lf8 := hHeld.size
        replace f10 := blk_up f10 (.cells #[.float .f64 p0, .float .f64 p1] 24)
        replace fg := blk_up fg (.cells #[.float .f64 p0, .float .f64 p1] 24)
        replace fA := blk_up fA (.cells #[.float .f64 p0, .float .f64 p1] 24)
        replace f11 := blk_up f11 (.cells #[.float .f64 p0, .float .f64 p1] 24)
        have f8 := heap_alloc_new Z69 (.cells #[.float .f64 p0, .float .f64 p1] 24)
        refine hK.out _ _ (below_alloc hHeld _) (fun hHeld => ?_)
        clear hK K
        (try simp only [Act.put, List.setIfInBounds_toArray, List.set_cons_zero, List.set_cons_succ])
        generalize Z69.alloc (.cells #[.float .f64 p0, .float .f64 p1] 24) = Z70 at *
        generalize Z69.heap.size = b8 at *
        refine take_ (oi := ?oi87) (i := 9) (N := some 38) (v := ?v87) ?hi87 (by kernel_rfl) (by kernel_rfl) (by kernel_rfl) ?hQ87 ?hN87 (Or.inl ⟨?hw87, ?hy87⟩) hHeld ?rest87
        case hi87 => simp only [List.getElem?_toArray, List.getElem?_cons_zero, List.getElem?_cons_succ]; rfl
        case hQ87 => exact fun _ _ _ h => h
        case hN87 => rfl
        case hw87 => rfl
        case hy87 => intro W hSw; have z0 := pw_cell_below (show Below _ _ W from hSw) q0; have z1 := pw_cell_below (show Below _ _ W from hSw) q1; have z2 := pw_cell_below (show Below _ _ W from hSw) q2; have z3 := pw_cell_below (show Below _ _ W from hSw) q3; go_simp; (try with_reducible rfl)
        simp only [Act.put, List.setIfInBounds_toArray, List.set_cons_zero, List.set_cons_succ]
        refine wpAnyH_ready (rs := [12]) (by kernel_rfl) (by simp) ?_
        refine AllReadyH.cons (o := ?oi88) ?hi88 (fun K hK => ?step88) AllReadyH.nil
        case hi88 => simp only [List.getElem?_toArray, List.getElem?_cons_zero, List.getElem?_cons_succ]; rfl
        obtain ⟨s0, s1, s2, s3, s4, s5⟩ := cells6 f10
        have s6 := frozen_of_row _ _ 0 _ _ f10
        have s7 := frozen_of_row _ _ 1 _ _ f10
        have s8 := frozen_of_row _ _ 2 _ _ f10
        have s9 := frozen_of_row _ _ 3 _ _ f10
        have s10 := frozen_of_row _ _ 4 _ _ f10
        have s11 := frozen_of_row _ _ 5 _ _ f10
        go_simp
        clear s0 s1 s2 s3 s4 s5 s6 s7 s8 s9 s10 s11
        refine hK.out _ _ (below_set6 hHeld lf10 (.int .i64 3) (.int .u32 0) (.slice none 0 0) (.slice (some ⟨g, 0, none⟩) 1 1) (.slice none 0 0) (.slice none 0 0)) (fun hHeld => ?_)
        clear hK K
        replace fg := (set6_ne (ne_of_obj fg f10 (by simp)) (.int .i64 3) (.int .u32 0) (.slice none 0 0) (.slice (some ⟨g, 0, none⟩) 1 1) (.slice none 0 0) (.slice none 0 0)).trans fg
        replace fA := (set6_ne (ne_of_obj fA f10 (by simp)) (.int .i64 3) (.int .u32 0) (.slice none 0 0) (.slice (some ⟨g, 0, none⟩) 1 1) (.slice none 0 0) (.slice none 0 0)).trans fA
        replace f11 := (set6_ne (Ne.symm ne) (.int .i64 3) (.int .u32 0) (.slice none 0 0) (.slice (some ⟨g, 0, none⟩) 1 1) (.slice none 0 0) (.slice none 0 0)).trans f11
        replace f8 := (set6_ne (ne_of_obj f8 f10 (by simp)) (.int .i64 3) (.int .u32 0) (.slice none 0 0) (.slice (some ⟨g, 0, none⟩) 1 1) (.slice none 0 0) (.slice none 0 0)).trans f8
        replace f10 := set6 f10 (.int .i64 3) (.int .u32 0) (.slice none 0 0) (.slice (some ⟨g, 0, none⟩) 1 1) (.slice none 0 0) (.slice none 0 0)
        generalize ((((((Z70.setCell ⟨i10, 0, none⟩ (.int .i64 3)).setCell ⟨i10, 1, none⟩ (.int .u32 0)).setCell ⟨i10, 2, none⟩ (.slice none 0 0)).setCell ⟨i10, 3, none⟩ (.slice (some ⟨g, 0, none⟩) 1 1)).setCell ⟨i10, 4, none⟩ (.slice none 0 0)).setCell ⟨i10, 5, none⟩ (.slice none 0 0)) = Z71 at *
        refine wpAnyH_ready (rs := [13]) (by kernel_rfl) (by simp) ?_
        refine AllReadyH.cons (o := ?oi89) ?hi89 (fun K hK => ?step89) AllReadyH.nil
        case hi89 => simp only [List.getElem?_toArray, List.getElem?_cons_zero, List.getElem?_cons_succ]; rfl
        obtain ⟨s0, s1, s2, s3, s4, s5⟩ := cells6 f11
        have s6 := frozen_of_row _ _ 0 _ _ f11
        have s7 := frozen_of_row _ _ 1 _ _ f11
        have s8 := frozen_of_row _ _ 2 _ _ f11
        have s9 := frozen_of_row _ _ 3 _ _ f11
        have s10 := frozen_of_row _ _ 4 _ _ f11
        have s11 := frozen_of_row _ _ 5 _ _ f11
        go_simp
        clear s0 s1 s2 s3 s4 s5 s6 s7 s8 s9 s10 s11
        refine hK.out _ _ (below_set6 hHeld lf11 (.int .i64 1) (.int .u32 0) (.slice (some ⟨b8, 0, none⟩) 1 1) (.slice none 0 0) (.slice none 0 0) (.slice none 0 0)) (fun hHeld => ?_)
        clear hK K
        replace f10 := (set6_ne (ne) (.int .i64 1) (.int .u32 0) (.slice (some ⟨b8, 0, none⟩) 1 1) (.slice none 0 0) (.slice none 0 0) (.slice none 0 0)).trans f10
        replace fg := (set6_ne (ne_of_obj fg f11 (by simp)) (.int .i64 1) (.int .u32 0) (.slice (some ⟨b8, 0, none⟩) 1 1) (.slice none 0 0) (.slice none 0 0) (.slice none 0 0)).trans fg
        replace fA := (set6_ne (ne_of_obj fA f11 (by simp)) (.int .i64 1) (.int .u32 0) (.slice (some ⟨b8, 0, none⟩) 1 1) (.slice none 0 0) (.slice none 0 0) (.slice none 0 0)).trans fA
        replace f8 := (set6_ne (ne_of_obj f8 f11 (by simp)) (.int .i64 1) (.int .u32 0) (.slice (some ⟨b8, 0, none⟩) 1 1) (.slice none 0 0) (.slice none 0 0) (.slice none 0 0)).trans f8
        replace f11 := set6 f11 (.int .i64 1) (.int .u32 0) (.slice (some ⟨b8, 0, none⟩) 1 1) (.slice none 0 0) (.slice none 0 0) (.slice none 0 0)
        generalize ((((((Z71.setCell ⟨i11, 0, none⟩ (.int .i64 1)).setCell ⟨i11, 1, none⟩ (.int .u32 0)).setCell ⟨i11, 2, none⟩ (.slice (some ⟨b8, 0, none⟩) 1 1)).setCell ⟨i11, 3, none⟩ (.slice none 0 0)).setCell ⟨i11, 4, none⟩ (.slice none 0 0)).setCell ⟨i11, 5, none⟩ (.slice none 0 0)) = Z72 at *
        refine wpAnyH_done (by kernel_rfl) ?_ _
        refine NoPanic.normal ?_
        show K _ _
        exact REST f10 f11 f8 fg fA hHeld
      refine AllReadyH.cons (o := ?oi90) ?hi90 (fun K hK => ?step90) AllReadyH.nil
      case hi90 => simp only [List.getElem?_toArray, List.getElem?_cons_zero, List.getElem?_cons_succ]; rfl
      obtain ⟨s0, s1, s2, s3, s4, s5⟩ := cells6 f10
      have s6 := frozen_of_row _ _ 0 _ _ f10
      have s7 := frozen_of_row _ _ 1 _ _ f10
      have s8 := frozen_of_row _ _ 2 _ _ f10
      have s9 := frozen_of_row _ _ 3 _ _ f10
      have s10 := frozen_of_row _ _ 4 _ _ f10
      have s11 := frozen_of_row _ _ 5 _ _ f10
      go_simp
      clear s0 s1 s2 s3 s4 s5 s6 s7 s8 s9 s10 s11
      refine hK.out _ _ (below_set6 hHeld lf10 (.int .i64 3) (.int .u32 0) (.slice none 0 0) (.slice (some ⟨g, 0, none⟩) 1 1) (.slice none 0 0) (.slice none 0 0)) (fun hHeld => ?_)
      clear hK K
      replace fg := (set6_ne (ne_of_obj fg f10 (by simp)) (.int .i64 3) (.int .u32 0) (.slice none 0 0) (.slice (some ⟨g, 0, none⟩) 1 1) (.slice none 0 0) (.slice none 0 0)).trans fg
      replace fA := (set6_ne (ne_of_obj fA f10 (by simp)) (.int .i64 3) (.int .u32 0) (.slice none 0 0) (.slice (some ⟨g, 0, none⟩) 1 1) (.slice none 0 0) (.slice none 0 0)).trans fA
      replace f11 := (set6_ne (Ne.symm ne) (.int .i64 3) (.int .u32 0) (.slice none 0 0) (.slice (some ⟨g, 0, none⟩) 1 1) (.slice none 0 0) (.slice none 0 0)).trans f11
      replace f10 := set6 f10 (.int .i64 3) (.int .u32 0) (.slice none 0 0) (.slice (some ⟨g, 0, none⟩) 1 1) (.slice none 0 0) (.slice none 0 0)
      generalize ((((((Z69.setCell ⟨i10, 0, none⟩ (.int .i64 3)).setCell ⟨i10, 1, none⟩ (.int .u32 0)).setCell ⟨i10, 2, none⟩ (.slice none 0 0)).setCell ⟨i10, 3, none⟩ (.slice (some ⟨g, 0, none⟩) 1 1)).setCell ⟨i10, 4, none⟩ (.slice none 0 0)).setCell ⟨i10, 5, none⟩ (.slice none 0 0)) = Z73 at *
      refine wpAnyH_ready (rs := [8]) (by kernel_rfl) (by simp) ?_
      refine AllReadyH.cons (o := ?oi91) ?hi91 (fun K hK => ?step91) AllReadyH.nil
      case hi91 => simp only [List.getElem?_toArray, List.getElem?_cons_zero, List.getElem?_cons_succ]; rfl
      go_simp
      have lf8 := hHeld.size
      replace f10 := blk_up f10 (.cells #[.float .f64 p0, .float .f64 p1] 24)
      replace fg := blk_up fg (.cells #[.float .f64 p0, .float .f64 p1] 24)
      replace fA := blk_up fA (.cells #[.float .f64 p0, .float .f64 p1] 24)
      replace f11 := blk_up f11 (.cells #[.float .f64 p0, .float .f64 p1] 24)
      have f8 := heap_alloc_new Z73 (.cells #[.float .f64 p0, .float .f64 p1] 24)
      refine hK.out _ _ (below_alloc hHeld _) (fun hHeld => ?_)
      clear hK K
      (try simp only [Act.put, List.setIfInBounds_toArray, List.set_cons_zero, List.set_cons_succ])
      generalize Z73.alloc (.cells #[.float .f64 p0, .float .f64 p1] 24) = Z74 at *
      generalize Z73.heap.size = b8 at *
      refine take_ (oi := ?oi92) (i := 9) (N := some 38) (v := ?v92) ?hi92 (by kernel_rfl) (by kernel_rfl) (by kernel_rfl) ?hQ92 ?hN92 (Or.inl ⟨?hw92, ?hy92⟩) hHeld ?rest92
      case hi92 => simp only [List.getElem?_toArray, List.getElem?_cons_zero, List.getElem?_cons_succ]; rfl
      case hQ92 => exact fun _ _ _ h => h
      case hN92 => rfl
      case hw92 => rfl
      case hy92 => intro W hSw; have z0 := pw_cell_below (show Below _ _ W from hSw) q0; have z1 := pw_cell_below (show Below _ _ W from hSw) q1; have z2 := pw_cell_below (show Below _ _ W from hSw) q2; have z3 := pw_cell_below (show Below _ _ W from hSw) q3; go_simp; (try with_reducible rfl)
      simp only [Act.put, List.setIfInBounds_toArray, List.set_cons_zero, List.set_cons_succ]
      refine wpAnyH_ready (rs := [13]) (by kernel_rfl) (by simp) ?_
      refine AllReadyH.cons (o := ?oi93) ?hi93 (fun K hK => ?step93) AllReadyH.nil
      case hi93 => simp only [List.getElem?_toArray, List.getElem?_cons_zero, List.getElem?_cons_succ]; rfl
      obtain ⟨s0, s1, s2, s3, s4, s5⟩ := cells6 f11
      have s6 := frozen_of_row _ _ 0 _ _ f11
      have s7 := frozen_of_row _ _ 1 _ _ f11
      have s8 := frozen_of_row _ _ 2 _ _ f11
      have s9 := frozen_of_row _ _ 3 _ _ f11
      have s10 := frozen_of_row _ _ 4 _ _ f11
      have s11 := frozen_of_row _ _ 5 _ _ f11
      go_simp
      clear s0 s1 s2 s3 s4 s5 s6 s7 s8 s9 s10 s11
      refine hK.out _ _ (below_set6 hHeld lf11 (.int .i64 1) (.int .u32 0) (.slice (some ⟨b8, 0, none⟩) 1 1) (.slice none 0 0) (.slice none 0 0) (.slice none 0 0)) (fun hHeld => ?_)
      clear hK K
      replace f10 := (set6_ne (ne) (.int .i64 1) (.int .u32 0) (.slice (some ⟨b8, 0, none⟩) 1 1) (.slice none 0 0) (.slice none 0 0) (.slice none 0 0)).trans f10
      replace fg := (set6_ne (ne_of_obj fg f11 (by simp)) (.int .i64 1) (.int .u32 0) (.slice (some ⟨b8, 0, none⟩) 1 1) (.slice none 0 0) (.slice none 0 0) (.slice none 0 0)).trans fg
      replace fA := (set6_ne (ne_of_obj fA f11 (by simp)) (.int .i64 1) (.int .u32 0) (.slice (some ⟨b8, 0, none⟩) 1 1) (.slice none 0 0) (.slice none 0 0) (.slice none 0 0)).trans fA
      replace f8 := (set6_ne (ne_of_obj f8 f11 (by simp)) (.int .i64 1) (.int .u32 0) (.slice (some ⟨b8, 0, none⟩) 1 1) (.slice none 0 0) (.slice none 0 0) (.slice none 0 0)).trans f8
      replace f11 := set6 f11 (.int .i64 1) (.int .u32 0) (.slice (some ⟨b8, 0, none⟩) 1 1) (.slice none 0 0) (.slice none 0 0) (.slice none 0 0)
      generalize ((((((Z74.setCell ⟨i11, 0, none⟩ (.int .i64 1)).setCell ⟨i11, 1, none⟩ (.int .u32 0)).setCell ⟨i11, 2, none⟩ (.slice (some ⟨b8, 0, none⟩) 1 1)).setCell ⟨i11, 3, none⟩ (.slice none 0 0)).setCell ⟨i11, 4, none⟩ (.slice none 0 0)).setCell ⟨i11, 5, none⟩ (.slice none 0 0)) = Z75 at *
      refine wpAnyH_done (by kernel_rfl) ?_ _
      refine NoPanic.normal ?_
      show K _ _
      exact REST f10 f11 f8 fg fA hHeld
    refine AllReadyH.cons (o := ?oi94) ?hi94 (fun K hK => ?step94) ?more94
    case hi94 => simp only [List.getElem?_toArray, List.getElem?_cons_zero, List.getElem?_cons_succ]; rfl
    case step94 =>
      go_simp
      have lf8 := hHeld.size
      replace f10 := blk_up f10 (.cells #[.float .f64 p0, .float .f64 p1] 24)
      have f8 := heap_alloc_new Z63 (.cells #[.float .f64 p0, .float .f64 p1] 24)
      refine hK.out _ _ (below_alloc hHeld _) (fun hHeld => ?_)
      clear hK K
      (try simp only [Act.put, List.setIfInBounds_toArray, List.set_cons_zero, List.set_cons_succ])
      generalize Z63.alloc (.cells #[.float .f64 p0, .float .f64 p1] 24) = Z76 at *
      generalize Z63.heap.size = b8 at *
      refine take_ (oi := ?oi95) (i := 9) (N := some 38) (v := ?v95) ?hi95 (by kernel_rfl) (by kernel_rfl) (by kernel_rfl) ?hQ95 ?hN95 (Or.inl ⟨?hw95, ?hy95⟩) hHeld ?rest95
      case hi95 => simp only [List.getElem?_toArray, List.getElem?_cons_zero, List.getElem?_cons_succ]; rfl
      case hQ95 => exact fun _ _ _ h => h
      case hN95 => rfl
      case hw95 => rfl
      case hy95 => intro W hSw; have z0 := pw_cell_below (show Below _ _ W from hSw) q0; have z1 := pw_cell_below (show Below _ _ W from hSw) q1; have z2 := pw_cell_below (show Below _ _ W from hSw) q2; have z3 := pw_cell_below (show Below _ _ W from hSw) q3; go_simp; (try with_reducible rfl)
      simp only [Act.put, List.setIfInBounds_toArray, List.set_cons_zero, List.set_cons_succ]
      refine wpAnyH_ready (rs := [6, 11]) (by kernel_rfl) (by simp) ?_
      refine AllReadyH.cons (o := ?oi96) ?hi96 (fun K hK => ?step96) ?more96
      case hi96 => simp only [List.getElem?_toArray, List.getElem?_cons_zero, List.getElem?_cons_succ]; rfl
      case step96 =>
        refine goes_ (N := some 35) Tryz.func5 (by kernel_rfl) rfl #[.float .f64 a0, .float .f64 a1, .float .f64 wd, .float .f64 hg] (by rfl) rfl rfl (by (try simp only [List.map_toArray, List.map_cons, List.map_nil]); rfl) ?_
        refine (HRc.out _).mono ?_
        rintro e Z77 ⟨g, gA, rfl, fg, fA, hb⟩
        refine ⟨_, rfl, ?_⟩
        replace f10 := (hb.block _ (blk_lt f10)).trans f10
        replace f8 := (hb.block _ (blk_lt f8)).trans f8
        refine hK.out _ _ (below_step hHeld hb) (fun hHeld => ?_)
        clear hK K hb
        simp only [Act.put, List.setIfInBounds_toArray, List.set_cons_zero, List.set_cons_succ]
        refine wpAnyH_ready (rs := [11]) (by kernel_rfl) (by simp) ?_
        refine AllReadyH.cons (o := ?oi97) ?hi97 (fun K hK => ?step97) AllReadyH.nil
        case hi97 => simp only [List.getElem?_toArray, List.getElem?_cons_zero, List.getElem?_cons_succ]; rfl
        go_simp
        have lf11 := hHeld.size
        have ne := Nat.ne_of_lt (blk_lt f10)
        replace f10 := blk_up f10 (.cells #[.int .i64 0, .int .u32 0, .slice none 0 0, .slice none 0 0, .slice none 0 0, .slice none 0 0] 32)
        replace f8 := blk_up f8 (.cells #[.int .i64 0, .int .u32 0, .slice none 0 0, .slice none 0 0, .slice none 0 0, .slice none 0 0] 32)
        replace fg := blk_up fg (.cells #[.int .i64 0, .int .u32 0, .slice none 0 0, .slice none 0 0, .slice none 0 0, .slice none 0 0] 32)
        replace fA := blk_up fA (.cells #[.int .i64 0, .int .u32 0, .slice none 0 0, .slice none 0 0, .slice none 0 0, .slice none 0 0] 32)
        have f11 := heap_alloc_new Z77 (.cells #[.int .i64 0, .int .u32 0, .slice none 0 0, .slice none 0 0, .slice none 0 0, .slice none 0 0] 32)
        refine hK.out _ _ (below_alloc hHeld _) (fun hHeld => ?_)
        clear hK K
        (try simp only [Act.put, List.setIfInBounds_toArray, List.set_cons_zero, List.set_cons_succ])
        generalize Z77.alloc (.cells #[.int .i64 0, .int .u32 0, .slice none 0 0, .slice none 0 0, .slice none 0 0, .slice none 0 0] 32) = Z78 at *
        generalize Z77.heap.size = i11 at *
        refine wpAnyH_ready (rs := [12]) (by kernel_rfl) (by simp) ?_
        refine AllReadyH.cons (o := ?oi98) ?hi98 (fun K hK => ?step98) AllReadyH.nil
        case hi98 => simp only [List.getElem?_toArray, List.getElem?_cons_zero, List.getElem?_cons_succ]; rfl
        obtain ⟨s0, s1, s2, s3, s4, s5⟩ := cells6 f10
        have s6 := frozen_of_row _ _ 0 _ _ f10
        have s7 := frozen_of_row _ _ 1 _ _ f10
        have s8 := frozen_of_row _ _ 2 _ _ f10
        have s9 := frozen_of_row _ _ 3 _ _ f10
        have s10 := frozen_of_row _ _ 4 _ _ f10
        have s11 := frozen_of_row _ _ 5 _ _ f10
        go_simp
        clear s0 s1 s2 s3 s4 s5 s6 s7 s8 s9 s10 s11
        refine hK.out _ _ (below_set6 hHeld lf10 (.int .i64 3) (.int .u32 0) (.slice none 0 0) (.slice (some ⟨g, 0, none⟩) 1 1) (.slice none 0 0) (.slice none 0 0)) (fun hHeld => ?_)
        clear hK K
        replace f8 := (set6_ne (ne_of_obj f8 f10 (by simp)) (.int .i64 3) (.int .u32 0) (.slice none 0 0) (.slice (some ⟨g, 0, none⟩) 1 1) (.slice none 0 0) (.slice none 0 0)).trans f8
        replace fg := (set6_ne (ne_of_obj fg f10 (by simp)) (.int .i64 3) (.int .u32 0) (.slice none 0 0) (.slice (some ⟨g, 0, none⟩) 1 1) (.slice none 0 0) (.slice none 0 0)).trans fg
        replace fA := (set6_ne (ne_of_obj fA f10 (by simp)) (.int .i64 3) (.int .u32 0) (.slice none 0 0) (.slice (some ⟨g, 0, none⟩) 1 1) (.slice none 0 0) (.slice none 0 0)).trans fA
        replace f11 := (set6_ne (Ne.symm ne) (.int .i64 3) (.int .u32 0) (.slice none 0 0) (.slice (some ⟨g, 0, none⟩) 1 1) (.slice none 0 0) (.slice none 0 0)).trans f11
        replace f10 := set6 f10 (.int .i64 3) (.int .u32 0) (.slice none 0 0) (.slice (some ⟨g, 0, none⟩) 1 1) (.slice none 0 0) (.slice none 0 0)
        generalize ((((((Z78.setCell ⟨i10, 0, none⟩ (.int .i64 3)).setCell ⟨i10, 1, none⟩ (.int .u32 0)).setCell ⟨i10, 2, none⟩ (.slice none 0 0)).setCell ⟨i10, 3, none⟩ (.slice (some ⟨g, 0, none⟩) 1 1)).setCell ⟨i10, 4, none⟩ (.slice none 0 0)).setCell ⟨i10, 5, none⟩ (.slice none 0 0)) = Z79 at *
        refine wpAnyH_ready (rs := [13]) (by kernel_rfl) (by simp) ?_
        refine AllReadyH.cons (o := ?oi99) ?hi99 (fun K hK => ?step99) AllReadyH.nil
        case hi99 => simp only [List.getElem?_toArray, List.getElem?_cons_zero, List.getElem?_cons_succ]; rfl
        obtain ⟨s0, s1, s2, s3, s4, s5⟩ := cells6 f11
        have s6 := frozen_of_row _ _ 0 _ _ f11
        have s7 := frozen_of_row _ _ 1 _ _ f11
        have s8 := frozen_of_row _ _ 2 _ _ f11
        have s9 := frozen_of_row _ _ 3 _ _ f11
        have s10 := frozen_of_row _ _ 4 _ _ f11
        have s11 := frozen_of_row _ _ 5 _ _ f11
        go_simp
        clear s0 s1 s2 s3 s4 s5 s6 s7 s8 s9 s10 s11
        refine hK.out _ _ (below_set6 hHeld lf11 (.int .i64 1) (.int .u32 0) (.slice (some ⟨b8, 0, none⟩) 1 1) (.slice none 0 0) (.slice none 0 0) (.slice none 0 0)) (fun hHeld => ?_)
        clear hK K
        replace f10 := (set6_ne (ne) (.int .i64 1) (.int .u32 0) (.slice (some ⟨b8, 0, none⟩) 1 1) (.slice none 0 0) (.slice none 0 0) (.slice none 0 0)).trans f10
        replace f8 := (set6_ne (ne_of_obj f8 f11 (by simp)) (.int .i64 1) (.int .u32 0) (.slice (some ⟨b8, 0, none⟩) 1 1) (.slice none 0 0) (.slice none 0 0) (.slice none 0 0)).trans f8
        replace fg := (set6_ne (ne_of_obj fg f11 (by simp)) (.int .i64 1) (.int .u32 0) (.slice (some ⟨b8, 0, none⟩) 1 1) (.slice none 0 0) (.slice none 0 0) (.slice none 0 0)).trans fg
        replace fA := (set6_ne (ne_of_obj fA f11 (by simp)) (.int .i64 1) (.int .u32 0) (.slice (some ⟨b8, 0, none⟩) 1 1) (.slice none 0 0) (.slice none 0 0) (.slice none 0 0)).trans fA
        replace f11 := set6 f11 (.int .i64 1) (.int .u32 0) (.slice (some ⟨b8, 0, none⟩) 1 1) (.slice none 0 0) (.slice none 0 0) (.slice none 0 0)
        generalize ((((((Z79.setCell ⟨i11, 0, none⟩ (.int .i64 1)).setCell ⟨i11, 1, none⟩ (.int .u32 0)).setCell ⟨i11, 2, none⟩ (.slice (some ⟨b8, 0, none⟩) 1 1)).setCell ⟨i11, 3, none⟩ (.slice none 0 0)).setCell ⟨i11, 4, none⟩ (.slice none 0 0)).setCell ⟨i11, 5, none⟩ (.slice none 0 0)) = Z80 at *
        refine wpAnyH_done (by kernel_rfl) ?_ _
        refine NoPanic.normal ?_
        show K _ _
        exact REST f10 f11 f8 fg fA hHeld
      refine AllReadyH.cons (o := ?oi100) ?hi100 (fun K hK => ?step100) AllReadyH.nil
      case hi100 => simp only [List.getElem?_toArray, List.getElem?_cons_zero, List.getElem?_cons_succ]; rfl
      go_simp
      have lf11 := hHeld.size
      have ne := Nat.ne_of_lt (blk_lt f10)
      replace f10 := blk_up f10 (.cells #[.int .i64 0, .int .u32 0, .slice none 0 0, .slice none 0 0, .slice none 0 0, .slice none 0 0] 32)
      replace f8 := blk_up f8 (.cells #[.int .i64 0, .int .u32 0, .slice none 0 0, .slice none 0 0, .slice none 0 0, .slice none 0 0] 32)
      have f11 := heap_alloc_new Z76 (.cells #[.int .i64 0, .int .u32 0, .slice none 0 0, .slice none 0 0, .slice none 0 0, .slice none 0 0] 32)
      refine hK.out _ _ (below_alloc hHeld _) (fun hHeld => ?_)
      clear hK K
      (try simp only [Act.put, List.setIfInBounds_toArray, List.set_cons_zero, List.set_cons_succ])
      generalize Z76.alloc (.cells #[.int .i64 0, .int .u32 0, .slice none 0 0, .slice none 0 0, .slice none 0 0, .slice none 0 0] 32) = Z81 at *
      generalize Z76.heap.size = i11 at *
      refine wpAnyH_ready (rs := [6]) (by kernel_rfl) (by simp) ?_
      refine AllReadyH.cons (o := ?oi101) ?hi101 (fun K hK => ?step101) AllReadyH.nil
      case hi101 => simp only [List.getElem?_toArray, List.getElem?_cons_zero, List.getElem?_cons_succ]; rfl
      refine goes_ (N := some 35) Tryz.func5 (by kernel_rfl) rfl #[.float .f64 a0, .float .f64 a1, .float .f64 wd, .float .f64 hg] (by rfl) rfl rfl (by (try simp only [List.map_toArray, List.map_cons, List.map_nil]); rfl) ?_
      refine (HRc.out _).mono ?_
      rintro e Z82 ⟨g, gA, rfl, fg, fA, hb⟩
      refine ⟨_, rfl, ?_⟩
      replace f10 := (hb.block _ (blk_lt f10)).trans f10
      replace f8 := (hb.block _ (blk_lt f8)).trans f8
      replace f11 := (hb.block _ (blk_lt f11)).trans f11
      refine hK.out _ _ (below_step hHeld hb) (fun hHeld => ?_)
      clear hK K hb
      simp only [Act.put, List.setIfInBounds_toArray, List.set_cons_zero, List.set_cons_succ]
      refine wpAnyH_ready (rs := [12]) (by kernel_rfl) (by simp) ?_
      refine AllReadyH.cons (o := ?oi102) ?hi102 (fun K hK => ?step102) AllReadyH.nil
      case hi102 => simp only [List.getElem?_toArray, List.getElem?_cons_zero, List.getElem?_cons_succ]; rfl
      obtain ⟨s0, s1, s2, s3, s4, s5⟩ := cells6 f10
      have s6 := frozen_of_row _ _ 0 _ _ f10
      have s7 := frozen_of_row _ _ 1 _ _ f10
      have s8 := frozen_of_row _ _ 2 _ _ f10
      have s9 := frozen_of_row _ _ 3 _ _ f10
      have s10 := frozen_of_row _ _ 4 _ _ f10
      have s11 := frozen_of_row _ _ 5 _ _ f10
      go_simp
      clear s0 s1 s2 s3 s4 s5 s6 s7 s8 s9 s10 s11
      refine hK.out _ _ (below_set6 hHeld lf10 (.int .i64 3) (.int .u32 0) (.slice none 0 0) (.slice (some ⟨g, 0, none⟩) 1 1) (.slice none 0 0) (.slice none 0 0)) (fun hHeld => ?_)
      clear hK K
      replace f8 := (set6_ne (ne_of_obj f8 f10 (by simp)) (.int .i64 3) (.int .u32 0) (.slice none 0 0) (.slice (some ⟨g, 0, none⟩) 1 1) (.slice none 0 0) (.slice none 0 0)).trans f8
      replace f11 := (set6_ne (Ne.symm ne) (.int .i64 3) (.int .u32 0) (.slice none 0 0) (.slice (some ⟨g, 0, none⟩) 1 1) (.slice none 0 0) (.slice none 0 0)).trans f11
      replace fg := (set6_ne (ne_of_obj fg f10 (by simp)) (.int .i64 3) (.int .u32 0) (.slice none 0 0) (.slice (some ⟨g, 0, none⟩) 1 1) (.slice none 0 0) (.slice none 0 0)).trans fg
      replace fA := (set6_ne (ne_of_obj fA f10 (by simp)) (.int .i64 3) (.int .u32 0) (.slice none 0 0) (.slice (some ⟨g, 0, none⟩) 1 1) (.slice none 0 0) (.slice none 0 0)).trans fA
      replace f10 := set6 f10 (.int .i64 3) (.int .u32 0) (.slice none 0 0) (.slice (some ⟨g, 0, none⟩) 1 1) (.slice none 0 0) (.slice none 0 0)
      generalize ((((((Z82.setCell ⟨i10, 0, none⟩ (.int .i64 3)).setCell ⟨i10, 1, none⟩ (.int .u32 0)).setCell ⟨i10, 2, none⟩ (.slice none 0 0)).setCell ⟨i10, 3, none⟩ (.slice (some ⟨g, 0, none⟩) 1 1)).setCell ⟨i10, 4, none⟩ (.slice none 0 0)).setCell ⟨i10, 5, none⟩ (.slice none 0 0)) = Z83 at *
      refine wpAnyH_ready (rs := [13]) (by kernel_rfl) (by simp) ?_
      refine AllReadyH.cons (o := ?oi103) ?hi103 (fun K hK => ?step103) AllReadyH.nil
      case hi103 => simp only [List.getElem?_toArray, List.getElem?_cons_zero, List.getElem?_cons_succ]; rfl
      obtain ⟨s0, s1, s2, s3, s4, s5⟩ := cells6 f11
      have s6 := frozen_of_row _ _ 0 _ _ f11
      have s7 := frozen_of_row _ _ 1 _ _ f11
      have s8 := frozen_of_row _ _ 2 _ _ f11
      have s9 := frozen_of_row _ _ 3 _ _ f11
      have s10 := frozen_of_row _ _ 4 _ _ f11
      have s11 := frozen_of_row _ _ 5 _ _ f11
      go_simp
      clear s0 s1 s2 s3 s4 s5 s6 s7 s8 s9 s10 s11
      refine hK.out _ _ (below_set6 hHeld lf11 (.int .i64 1) (.int .u32 0) (.slice (some ⟨b8, 0, none⟩) 1 1) (.slice none 0 0) (.slice none 0 0) (.slice none 0 0)) (fun hHeld => ?_)
      clear hK K
      replace f10 := (set6_ne (ne) (.int .i64 1) (.int .u32 0) (.slice (some ⟨b8, 0, none⟩) 1 1) (.slice none 0 0) (.slice none 0 0) (.slice none 0 0)).trans f10
      replace f8 := (set6_ne (ne_of_obj f8 f11 (by simp)) (.int .i64 1) (.int .u32 0) (.slice (some ⟨b8, 0, none⟩) 1 1) (.slice none 0 0) (.slice none 0 0) (.slice none 0 0)).trans f8
      replace fg := (set6_ne (ne_of_obj fg f11 (by simp)) (.int .i64 1) (.int .u32 0) (.slice (some ⟨b8, 0, none⟩) 1 1) (.slice none 0 0) (.slice none 0 0) (.slice none 0 0)).trans fg
      replace fA := (set6_ne (ne_of_obj fA f11 (by simp)) (.int .i64 1) (.int .u32 0) (.slice (some ⟨b8, 0, none⟩) 1 1) (.slice none 0 0) (.slice none 0 0) (.slice none 0 0)).trans fA
      replace f11 := set6 f11 (.int .i64 1) (.int .u32 0) (.slice (some ⟨b8, 0, none⟩) 1 1) (.slice none 0 0) (.slice none 0 0) (.slice none 0 0)
      generalize ((((((Z83.setCell ⟨i11, 0, none⟩ (.int .i64 1)).setCell ⟨i11, 1, none⟩ (.int .u32 0)).setCell ⟨i11, 2, none⟩ (.slice (some ⟨b8, 0, none⟩) 1 1)).setCell ⟨i11, 3, none⟩ (.slice none 0 0)).setCell ⟨i11, 4, none⟩ (.slice none 0 0)).setCell ⟨i11, 5, none⟩ (.slice none 0 0)) = Z84 at *
      refine wpAnyH_done (by kernel_rfl) ?_ _
      refine NoPanic.normal ?_
      show K _ _
      exact REST f10 f11 f8 fg fA hHeld
    refine AllReadyH.cons (o := ?oi104) ?hi104 (fun K hK => ?step104) AllReadyH.nil
    case hi104 => simp only [List.getElem?_toArray, List.getElem?_cons_zero, List.getElem?_cons_succ]; rfl
    go_simp
    have lf11 := hHeld.size
    have ne := Nat.ne_of_lt (blk_lt f10)
    replace f10 := blk_up f10 (.cells #[.int .i64 0, .int .u32 0, .slice none 0 0, .slice none 0 0, .slice none 0 0, .slice none 0 0] 32)
    have f11 := heap_alloc_new Z63 (.cells #[.int .i64 0, .int .u32 0, .slice none 0 0, .slice none 0 0, .slice none 0 0, .slice none 0 0] 32)
    refine hK.out _ _ (below_alloc hHeld _) (fun hHeld => ?_)
    clear hK K
    (try simp only [Act.put, List.setIfInBounds_toArray, List.set_cons_zero, List.set_cons_succ])
    generalize Z63.alloc (.cells #[.int .i64 0, .int .u32 0, .slice none 0 0, .slice none 0 0, .slice none 0 0, .slice none 0 0] 32) = Z85 at *
    generalize Z63.heap.size = i11 at *
    refine wpAnyH_ready (rs := [6, 8]) (by kernel_rfl) (by simp) ?_
    refine AllReadyH.cons (o := ?oi105) ?hi105 (fun K hK => ?step105) ?more105
    case hi105 => simp only [List.getElem?_toArray, List.getElem?_cons_zero, List.getElem?_cons_succ]; rfl
    case step105 =>
      refine goes_ (N := some 35) Tryz.func5 (by kernel_rfl) rfl #[.float .f64 a0, .float .f64 a1, .float .f64 wd, .float .f64 hg] (by rfl) rfl rfl (by (try simp only [List.map_toArray, List.map_cons, List.map_nil]); rfl) ?_
      refine (HRc.out _).mono ?_
      rintro e Z86 ⟨g, gA, rfl, fg, fA, hb⟩
      refine ⟨_, rfl, ?_⟩
      replace f10 := (hb.block _ (blk_lt f10)).trans f10
      replace f11 := (hb.block _ (blk_lt f11)).trans f11
      refine hK.out _ _ (below_step hHeld hb) (fun hHeld => ?_)
      clear hK K hb
      simp only [Act.put, List.setIfInBounds_toArray, List.set_cons_zero, List.set_cons_succ]
      refine wpAnyH_ready (rs := [8, 12]) (by kernel_rfl) (by simp) ?_
      refine AllReadyH.cons (o := ?oi106) ?hi106 (fun K hK => ?step106) ?more106
      case hi106 => simp only [List.getElem?_toArray, List.getElem?_cons_zero, List.getElem?_cons_succ]; rfl
      case step106 =>
        go_simp
        have lf8 := hHeld.size
        replace f10 := blk_up f10 (.cells #[.float .f64 p0, .float .f64 p1] 24)
        replace f11 := blk_up f11 (.cells #[.float .f64 p0, .float .f64 p1] 24)
        replace fg := blk_up fg (.cells #[.float .f64 p0, .float .f64 p1] 24)
        replace fA := blk_up fA (.cells #[.float .f64 p0, .float .f64 p1] 24)
        have f8 := heap_alloc_new Z86 (.cells #[.float .f64 p0, .float .f64 p1] 24)
        refine hK.out _ _ (below_alloc hHeld _) (fun hHeld => ?_)
        clear hK K
        (try simp only [Act.put, List.setIfInBounds_toArray, List.set_cons_zero, List.set_cons_succ])
        generalize Z86.alloc (.cells #[.float .f64 p0, .float .f64 p1] 24) = Z87 at *
        generalize Z86.heap.size = b8 at *
        refine take_ (oi := ?oi107) (i := 9) (N := some 38) (v := ?v107) ?hi107 (by kernel_rfl) (by kernel_rfl) (by kernel_rfl) ?hQ107 ?hN107 (Or.inl ⟨?hw107, ?hy107⟩) hHeld ?rest107
        case hi107 => simp only [List.getElem?_toArray, List.getElem?_cons_zero, List.getElem?_cons_succ]; rfl
        case hQ107 => exact fun _ _ _ h => h
        case hN107 => rfl
        case hw107 => rfl
        case hy107 => intro W hSw; have z0 := pw_cell_below (show Below _ _ W from hSw) q0; have z1 := pw_cell_below (show Below _ _ W from hSw) q1; have z2 := pw_cell_below (show Below _ _ W from hSw) q2; have z3 := pw_cell_below (show Below _ _ W from hSw) q3; go_simp; (try with_reducible rfl)
        simp only [Act.put, List.setIfInBounds_toArray, List.set_cons_zero, List.set_cons_succ]
        refine wpAnyH_ready (rs := [12]) (by kernel_rfl) (by simp) ?_
        refine AllReadyH.cons (o := ?oi108) ?hi108 (fun K hK => ?step108) AllReadyH.nil
        case hi108 => simp only [List.getElem?_toArray, List.getElem?_cons_zero, List.getElem?_cons_succ]; rfl
        obtain ⟨s0, s1, s2, s3, s4, s5⟩ := cells6 f10
        have s6 := frozen_of_row _ _ 0 _ _ f10
        have s7 := frozen_of_row _ _ 1 _ _ f10
        have s8 := frozen_of_row _ _ 2 _ _ f10
        have s9 := frozen_of_row _ _ 3 _ _ f10
        have s10 := frozen_of_row _ _ 4 _ _ f10
        have s11 := frozen_of_row _ _ 5 _ _ f10
        go_simp
        clear s0 s1 s2 s3 s4 s5 s6 s7 s8 s9 s10 s11
        refine hK.out _ _ (below_set6 hHeld lf10 (.int .i64 3) (.int .u32 0) (.slice none 0 0) (.slice (some ⟨g, 0, none⟩) 1 1) (.slice none 0 0) (.slice none 0 0)) (fun hHeld => ?_)
        clear hK K
        replace f11 := (set6_ne (Ne.symm ne) (.int .i64 3) (.int .u32 0) (.slice none 0 0) (.slice (some ⟨g, 0, none⟩) 1 1) (.slice none 0 0) (.slice none 0 0)).trans f11
        replace fg := (set6_ne (ne_of_obj fg f10 (by simp)) (.int .i64 3) (.int .u32 0) (.slice none 0 0) (.slice (some ⟨g, 0, none⟩) 1 1) (.slice none 0 0) (.slice none 0 0)).trans fg
        replace fA := (set6_ne (ne_of_obj fA f10 (by simp)) (.int .i64 3) (.int .u32 0) (.slice none 0 0) (.slice (some ⟨g, 0, none⟩) 1 1) (.slice none 0 0) (.slice none 0 0)).trans fA
        replace f8 := (set6_ne (ne_of_obj f8 f10 (by simp)) (.int .i64 3) (.int .u32 0) (.slice none 0 0) (.slice (some ⟨g, 0, none⟩) 1 1) (.slice none 0 0) (.slice none 0 0)).trans f8
        replace f10 := set6 f10 (.int .i64 3) (.int .u32 0) (.slice none 0 0) (.slice (some ⟨g, 0, none⟩) 1 1) (.slice none 0 0) (.slice none 0 0)
        generalize ((((((Z87.setCell ⟨i10, 0, none⟩ (.int .i64 3)).setCell ⟨i10, 1, none⟩ (.int .u32 0)).setCell ⟨i10, 2, none⟩ (.slice none 0 0)).setCell ⟨i10, 3, none⟩ (.slice (some ⟨g, 0, none⟩) 1 1)).setCell ⟨i10, 4, none⟩ (.slice none 0 0)).setCell ⟨i10, 5, none⟩ (.slice none 0 0)) = Z88 at *
        refine wpAnyH_ready (rs := [13]) (by kernel_rfl) (by simp) ?_
        refine AllReadyH.cons (o := ?oi109) ?hi109 (fun K hK => ?step109) AllReadyH.nil
        case hi109 => simp only [List.getElem?_toArray, List.getElem?_cons_zero, List.getElem?_cons_succ]; rfl
        obtain ⟨s0, s1, s2, s3, s4, s5⟩ := cells6 f11
        have s6 := frozen_of_row _ _ 0 _ _ f11
        have s7 := frozen_of_row _ _ 1 _ _ f11
        have s8 := frozen_of_row _ _ 2 _ _ f11
        have s9 := frozen_of_row _ _ 3 _ _ f11
        have s10 := frozen_of_row _ _ 4 _ _ f11
        have s11 := frozen_of_row _ _ 5 _ _ f11
        go_simp
        clear s0 s1 s2 s3 s4 s5 s6 s7 s8 s9 s10 s11
        refine hK.out _ _ (below_set6 hHeld lf11 (.int .i64 1) (.int .u32 0) (.slice (some ⟨b8, 0, none⟩) 1 1) (.slice none 0 0) (.slice none 0 0) (.slice none 0 0)) (fun hHeld => ?_)
        clear hK K
        replace f10 := (set6_ne (ne) (.int .i64 1) (.int .u32 0) (.slice (some ⟨b8, 0, none⟩) 1 1) (.slice none 0 0) (.slice none 0 0) (.slice none 0 0)).trans f10
        replace fg := (set6_ne (ne_of_obj fg f11 (by simp)) (.int .i64 1) (.int .u32 0) (.slice (some ⟨b8, 0, none⟩) 1 1) (.slice none 0 0) (.slice none 0 0) (.slice none 0 0)).trans fg
        replace fA := (set6_ne (ne_of_obj fA f11 (by simp)) (.int .i64 1) (.int .u32 0) (.slice (some ⟨b8, 0, none⟩) 1 1) (.slice none 0 0) (.slice none 0 0) (.slice none 0 0)).trans fA
        replace f8 := (set6_ne (ne_of_obj f8 f11 (by simp)) (.int .i64 1) (.int .u32 0) (.slice (some ⟨b8, 0, none⟩) 1 1) (.slice none 0 0) (.slice none 0 0) (.slice none 0 0)).trans f8
        replace f11 := set6 f11 (.int .i64 1) (.int .u32 0) (.slice (some ⟨b8, 0, none⟩) 1 1) (.slice none 0 0) (.slice none 0 0) (.slice none 0 0)
        generalize ((((((Z88.setCell ⟨i11, 0, none⟩ (.int .i64 1)).setCell ⟨i11, 1, none⟩ (.int .u32 0)).setCell ⟨i11, 2, none⟩ (.slice (some ⟨b8, 0, none⟩) 1 1)).setCell ⟨i11, 3, none⟩ (.slice none 0 0)).setCell ⟨i11, 4, none⟩ (.slice none 0 0)).setCell ⟨i11, 5, none⟩ (.slice none 0 0)) = Z89 at *
        refine wpAnyH_done (by kernel_rfl) ?_ _
        refine NoPanic.normal ?_
        show K _ _
        exact REST f10 f11 f8 fg fA hHeld
      refine AllReadyH.cons (o := ?oi110) ?hi110 (fun K hK => ?step110) AllReadyH.nil
      case hi110 => simp only [List.getElem?_toArray, List.getElem?_cons_zero, List.getElem?_cons_succ]; rfl
      obtain ⟨s0, s1, s2, s3, s4, s5⟩ := cells6 f10
      have s6 := frozen_of_row _ _ 0 _ _ f10
      have s7 := frozen_of_row _ _ 1 _ _ f10
      have s8 := frozen_of_row _ _ 2 _ _ f10
      have s9 := frozen_of_row _ _ 3 _ _ f10
      have s10 := frozen_of_row _ _ 4 _ _ f10
      have s11 := frozen_of_row _ _ 5 _ _ f10
      go_simp
      clear s0 s1 s2 s3 s4 s5 s6 s7 s8 s9 s10 s11
      refine hK.out _ _ (below_set6 hHeld lf10 (.int .i64 3) (.int .u32 0) (.slice none 0 0) (.slice (some ⟨g, 0, none⟩) 1 1) (.slice none 0 0) (.slice none 0 0)) (fun hHeld => ?_)
      clear hK K
      replace f11 := (set6_ne (Ne.symm ne) (.int .i64 3) (.int .u32 0) (.slice none 0 0) (.slice (some ⟨g, 0, none⟩) 1 1) (.slice none 0 0) (.slice none 0 0)).trans f11
      replace fg := (set6_ne (ne_of_obj fg f10 (by simp)) (.int .i64 3) (.int .u32 0) (.slice none 0 0) (.slice (some ⟨g, 0, none⟩) 1 1) (.slice none 0 0) (.slice none 0 0)).trans fg
      replace fA := (set6_ne (ne_of_obj fA f10 (by simp)) (.int .i64 3) (.int .u32 0) (.slice none 0 0) (.slice (some ⟨g, 0, none⟩) 1 1) (.slice none 0 0) (.slice none 0 0)).trans fA
      replace f10 := set6 f10 (.int .i64 3) (.int .u32 0) (.slice none 0 0) (.slice (some ⟨g, 0, none⟩) 1 1) (.slice none 0 0) (.slice none 0 0)
      generalize ((((((Z86.setCell ⟨i10, 0, none⟩ (.int .i64 3)).setCell ⟨i10, 1, none⟩ (.int .u32 0)).setCell ⟨i10, 2, none⟩ (.slice none 0 0)).setCell ⟨i10, 3, none⟩ (.slice (some ⟨g, 0, none⟩) 1 1)).setCell ⟨i10, 4, none⟩ (.slice none 0 0)).setCell ⟨i10, 5, none⟩ (.slice none 0 0)) = Z90 at *
      refine wpAnyH_ready (rs := [8]) (by kernel_rfl) (by simp) ?_
      refine AllReadyH.cons (o := ?oi111) ?hi111 (fun K hK => ?step111) AllReadyH.nil
      case hi111 => simp only [List.getElem?_toArray, List.getElem?_cons_zero, List.getElem?_cons_succ]; rfl
      go_simp
      have lf8 := hHeld.size
      replace f10 := blk_up f10 (.cells #[.float .f64 p0, .float .f64 p1] 24)
      replace f11 := blk_up f11 (.cells #[.float .f64 p0, .float .f64 p1] 24)
      replace fg := blk_up fg (.cells #[.float .f64 p0, .float .f64 p1] 24)
      replace fA := blk_up fA (.cells #[.float .f64 p0, .float .f64 p1] 24)
      have f8 := heap_alloc_new Z90 (.cells #[.float .f64 p0, .float .f64 p1] 24)
      refine hK.out _ _ (below_alloc hHeld _) (fun hHeld => ?_)
      clear hK K
      (try simp only [Act.put, List.setIfInBounds_toArray, List.set_cons_zero, List.set_cons_succ])
      generalize Z90.alloc (.cells #[.float .f64 p0, .float .f64 p1] 24) = Z91 at *
      generalize Z90.heap.size = b8 at *
      refine take_ (oi := ?oi112) (i := 9) (N := some 38) (v := ?v112) ?hi112 (by kernel_rfl) (by kernel_rfl) (by kernel_rfl) ?hQ112 ?hN112 (Or.inl ⟨?hw112, ?hy112⟩) hHeld ?rest112
      case hi112 => simp only [List.getElem?_toArray, List.getElem?_cons_zero, List.getElem?_cons_succ]; rfl
      case hQ112 => exact fun _ _ _ h => h
      case hN112 => rfl
      case hw112 => rfl
      case hy112 => intro W hSw; have z0 := pw_cell_below (show Below _ _ W from hSw) q0; have z1 := pw_cell_below (show Below _ _ W from hSw) q1; have z2 := pw_cell_below (show Below _ _ W from hSw) q2; have z3 := pw_cell_below (show Below _ _ W from hSw) q3; go_simp; (try with_reducible rfl)
      simp only [Act.put, List.setIfInBounds_toArray, List.set_cons_zero, List.set_cons_succ]
      refine wpAnyH_ready (rs := [13]) (by kernel_rfl) (by simp) ?_
      refine AllReadyH.cons (o := ?oi113) ?hi113 (fun K hK => ?step113) AllReadyH.nil
      case hi113 => simp only [List.getElem?_toArray, List.getElem?_cons_zero, List.getElem?_cons_succ]; rfl
      obtain ⟨s0, s1, s2, s3, s4, s5⟩ := cells6 f11
      have s6 := frozen_of_row _ _ 0 _ _ f11
      have s7 := frozen_of_row _ _ 1 _ _ f11
      have s8 := frozen_of_row _ _ 2 _ _ f11
      have s9 := frozen_of_row _ _ 3 _ _ f11
      have s10 := frozen_of_row _ _ 4 _ _ f11
      have s11 := frozen_of_row _ _ 5 _ _ f11
      go_simp
      clear s0 s1 s2 s3 s4 s5 s6 s7 s8 s9 s10 s11
      refine hK.out _ _ (below_set6 hHeld lf11 (.int .i64 1) (.int .u32 0) (.slice (some ⟨b8, 0, none⟩) 1 1) (.slice none 0 0) (.slice none 0 0) (.slice none 0 0)) (fun hHeld => ?_)
      clear hK K
      replace f10 := (set6_ne (ne) (.int .i64 1) (.int .u32 0) (.slice (some ⟨b8, 0, none⟩) 1 1) (.slice none 0 0) (.slice none 0 0) (.slice none 0 0)).trans f10
      replace fg := (set6_ne (ne_of_obj fg f11 (by simp)) (.int .i64 1) (.int .u32 0) (.slice (some ⟨b8, 0, none⟩) 1 1) (.slice none 0 0) (.slice none 0 0) (.slice none 0 0)).trans fg
      replace fA := (set6_ne (ne_of_obj fA f11 (by simp)) (.int .i64 1) (.int .u32 0) (.slice (some ⟨b8, 0, none⟩) 1 1) (.slice none 0 0) (.slice none 0 0) (.slice none 0 0)).trans fA
      replace f8 := (set6_ne (ne_of_obj f8 f11 (by simp)) (.int .i64 1) (.int .u32 0) (.slice (some ⟨b8, 0, none⟩) 1 1) (.slice none 0 0) (.slice none 0 0) (.slice none 0 0)).trans f8
      replace f11 := set6 f11 (.int .i64 1) (.int .u32 0) (.slice (some ⟨b8, 0, none⟩) 1 1) (.slice none 0 0) (.slice none 0 0) (.slice none 0 0)
      generalize ((((((Z91.setCell ⟨i11, 0, none⟩ (.int .i64 1)).setCell ⟨i11, 1, none⟩ (.int .u32 0)).setCell ⟨i11, 2, none⟩ (.slice (some ⟨b8, 0, none⟩) 1 1)).setCell ⟨i11, 3, none⟩ (.slice none 0 0)).setCell ⟨i11, 4, none⟩ (.slice none 0 0)).setCell ⟨i11, 5, none⟩ (.slice none 0 0)) = Z92 at *
      refine wpAnyH_done (by kernel_rfl) ?_ _
      refine NoPanic.normal ?_
      show K _ _
      exact REST f10 f11 f8 fg fA hHeld
    refine AllReadyH.cons (o := ?oi114) ?hi114 (fun K hK => ?step114) AllReadyH.nil
    case hi114 => simp only [List.getElem?_toArray, List.getElem?_cons_zero, List.getElem?_cons_succ]; rfl
    go_simp
    have lf8 := hHeld.size
    replace f10 := blk_up f10 (.cells #[.float .f64 p0, .float .f64 p1] 24)
    replace f11 := blk_up f11 (.cells #[.float .f64 p0, .float .f64 p1] 24)
    have f8 := heap_alloc_new Z85 (.cells #[.float .f64 p0, .float .f64 p1] 24)
    refine hK.out _ _ (below_alloc hHeld _) (fun hHeld => ?_)
    clear hK K
    (try simp only [Act.put, List.setIfInBounds_toArray, List.set_cons_zero, List.set_cons_succ])
    generalize Z85.alloc (.cells #[.float .f64 p0, .float .f64 p1] 24) = Z93 at *
    generalize Z85.heap.size = b8 at *
    refine take_ (oi := ?oi115) (i := 9) (N := some 38) (v := ?v115) ?hi115 (by kernel_rfl) (by kernel_rfl) (by kernel_rfl) ?hQ115 ?hN115 (Or.inl ⟨?hw115, ?hy115⟩) hHeld ?rest115
    case hi115 => simp only [List.getElem?_toArray, List.getElem?_cons_zero, List.getElem?_cons_succ]; rfl
    case hQ115 => exact fun _ _ _ h => h
    case hN115 => rfl
    case hw115 => rfl
    case hy115 => intro W hSw; have z0 := pw_cell_below (show Below _ _ W from hSw) q0; have z1 := pw_cell_below (show Below _ _ W from hSw) q1; have z2 := pw_cell_below (show Below _ _ W from hSw) q2; have z3 := pw_cell_below (show Below _ _ W from hSw) q3; go_simp; (try with_reducible rfl)
    simp only [Act.put, List.setIfInBounds_toArray, List.set_cons_zero, List.set_cons_succ]
    refine wpAnyH_ready (rs := [6]) (by kernel_rfl) (by simp) ?_
    refine AllReadyH.cons (o := ?oi116) ?hi116 (fun K hK => ?step116) AllReadyH.nil
    case hi116 => simp only [List.getElem?_toArray, List.getElem?_cons_zero, List.getElem?_cons_succ]; rfl
    refine goes_ (N := some 35) Tryz.func5 (by kernel_rfl) rfl #[.float .f64 a0, .float .f64 a1, .float .f64 wd, .float .f64 hg] (by rfl) rfl rfl (by (try simp only [List.map_toArray, List.map_cons, List.map_nil]); rfl) ?_
    refine (HRc.out _).mono ?_
    rintro e Z94 ⟨g, gA, rfl, fg, fA, hb⟩
    refine ⟨_, rfl, ?_⟩
    replace f10 := (hb.block _ (blk_lt f10)).trans f10
    replace f11 := (hb.block _ (blk_lt f11)).trans f11
    replace f8 := (hb.block _ (blk_lt f8)).trans f8
    refine hK.out _ _ (below_step hHeld hb) (fun hHeld => ?_)
    clear hK K hb
    simp only [Act.put, List.setIfInBounds_toArray, List.set_cons_zero, List.set_cons_succ]
    refine wpAnyH_ready (rs := [12]) (by kernel_rfl) (by simp) ?_
    refine AllReadyH.cons (o := ?oi117) ?hi117 (fun K hK => ?step117) AllReadyH.nil
    case hi117 => simp only [List.getElem?_toArray, List.getElem?_cons_zero, List.getElem?_cons_succ]; rfl
    obtain ⟨s0, s1, s2, s3, s4, s5⟩ := cells6 f10
    have s6 := frozen_of_row _ _ 0 _ _ f10
    have s7 := frozen_of_row _ _ 1 _ _ f10
    have s8 := frozen_of_row _ _ 2 _ _ f10
    have s9 := frozen_of_row _ _ 3 _ _ f10
    have s10 := frozen_of_row _ _ 4 _ _ f10
    have s11 := frozen_of_row _ _ 5 _ _ f10
    go_simp
    clear s0 s1 s2 s3 s4 s5 s6 s7 s8 s9 s10 s11
    refine hK.out _ _ (below_set6 hHeld lf10 (.int .i64 3) (.int .u32 0) (.slice none 0 0) (.slice (some ⟨g, 0, none⟩) 1 1) (.slice none 0 0) (.slice none 0 0)) (fun hHeld => ?_)
    clear hK K
    replace f11 := (set6_ne (Ne.symm ne) (.int .i64 3) (.int .u32 0) (.slice none 0 0) (.slice (some ⟨g, 0, none⟩) 1 1) (.slice none 0 0) (.slice none 0 0)).trans f11
    replace f8 := (set6_ne (ne_of_obj f8 f10 (by simp)) (.int .i64 3) (.int .u32 0) (.slice none 0 0) (.slice (some ⟨g, 0, none⟩) 1 1) (.slice none 0 0) (.slice none 0 0)).trans f8
    replace fg := (set6_ne (ne_of_obj fg f10 (by simp)) (.int .i64 3) (.int .u32 0) (.slice none 0 0) (.slice (some ⟨g, 0, none⟩) 1 1) (.slice none 0 0) (.slice none 0 0)).trans fg
    replace fA := (set6_ne (ne_of_obj fA f10 (by simp)) (.int .i64 3) (.int .u32 0) (.slice none 0 0) (.slice (some ⟨g, 0, none⟩) 1 1) (.slice none 0 0) (.slice none 0 0)).trans fA
    replace f10 := set6 f10 (.int .i64 3) (.int .u32 0) (.slice none 0 0) (.slice (some ⟨g, 0, none⟩) 1 1) (.slice none 0 0) (.slice none 0 0)
    generalize ((((((Z94.setCell ⟨i10, 0, none⟩ (.int .i64 3)).setCell ⟨i10, 1, none⟩ (.int .u32 0)).setCell ⟨i10, 2, none⟩ (.slice none 0 0)).setCell ⟨i10, 3, none⟩ (.slice (some ⟨g, 0, none⟩) 1 1)).setCell ⟨i10, 4, none⟩ (.slice none 0 0)).setCell ⟨i10, 5, none⟩ (.slice none 0 0)) = Z95 at *
    refine wpAnyH_ready (rs := [13]) (by kernel_rfl) (by simp) ?_
    refine AllReadyH.cons (o := ?oi118) ?hi118 (fun K hK => ?step118) AllReadyH.nil
    case hi118 => simp only [List.getElem?_toArray, List.getElem?_cons_zero, List.getElem?_cons_succ]; rfl
    obtain ⟨s0, s1, s2, s3, s4, s5⟩ := cells6 f11
    have s6 := frozen_of_row _ _ 0 _ _ f11
    have s7 := frozen_of_row _ _ 1 _ _ f11
    have s8 := frozen_of_row _ _ 2 _ _ f11
    have s9 := frozen_of_row _ _ 3 _ _ f11
    have s10 := frozen_of_row _ _ 4 _ _ f11
    have s11 := frozen_of_row _ _ 5 _ _ f11
    go_simp
    clear s0 s1 s2 s3 s4 s5 s6 s7 s8 s9 s10 s11
    refine hK.out _ _ (below_set6 hHeld lf11 (.int .i64 1) (.int .u32 0) (.slice (some ⟨b8, 0, none⟩) 1 1) (.slice none 0 0) (.slice none 0 0) (.slice none 0 0)) (fun hHeld => ?_)
    clear hK K
    replace f10 := (set6_ne (ne) (.int .i64 1) (.int .u32 0) (.slice (some ⟨b8, 0, none⟩) 1 1) (.slice none 0 0) (.slice none 0 0) (.slice none 0 0)).trans f10
    replace f8 := (set6_ne (ne_of_obj f8 f11 (by simp)) (.int .i64 1) (.int .u32 0) (.slice (some ⟨b8, 0, none⟩) 1 1) (.slice none 0 0) (.slice none 0 0) (.slice none 0 0)).trans f8
    replace fg := (set6_ne (ne_of_obj fg f11 (by simp)) (.int .i64 1) (.int .u32 0) (.slice (some ⟨b8, 0, none⟩) 1 1) (.slice none 0 0) (.slice none 0 0) (.slice none 0 0)).trans fg
    replace fA := (set6_ne (ne_of_obj fA f11 (by simp)) (.int .i64 1) (.int .u32 0) (.slice (some ⟨b8, 0, none⟩) 1 1) (.slice none 0 0) (.slice none 0 0) (.slice none 0 0)).trans fA
    replace f11 := set6 f11 (.int .i64 1) (.int .u32 0) (.slice (some ⟨b8, 0, none⟩) 1 1) (.slice none 0 0) (.slice none 0 0) (.slice none 0 0)
    generalize ((((((Z95.setCell ⟨i11, 0, none⟩ (.int .i64 1)).setCell ⟨i11, 1, none⟩ (.int .u32 0)).setCell ⟨i11, 2, none⟩ (.slice (some ⟨b8, 0, none⟩) 1 1)).setCell ⟨i11, 3, none⟩ (.slice none 0 0)).setCell ⟨i11, 4, none⟩ (.slice none 0 0)).setCell ⟨i11, 5, none⟩ (.slice none 0 0)) = Z96 at *
    refine wpAnyH_done (by kernel_rfl) ?_ _
    refine NoPanic.normal ?_
    show K _ _
    exact REST f10 f11 f8 fg fA hHeld
  refine AllReadyH.cons (o := ?oi119) ?hi119 (fun K hK => ?step119) AllReadyH.nil
  case hi119 => simp only [List.getElem?_toArray, List.getElem?_cons_zero, List.getElem?_cons_succ]; rfl
  go_simp
  have lf11 := hHeld.size
  have f11 := heap_alloc_new Z0 (.cells #[.int .i64 0, .int .u32 0, .slice none 0 0, .slice none 0 0, .slice none 0 0, .slice none 0 0] 32)
  refine hK.out _ _ (below_alloc hHeld _) (fun hHeld => ?_)
  clear hK K
  (try simp only [Act.put, List.setIfInBounds_toArray, List.set_cons_zero, List.set_cons_succ])
  generalize Z0.alloc (.cells #[.int .i64 0, .int .u32 0, .slice none 0 0, .slice none 0 0, .slice none 0 0, .slice none 0 0] 32) = Z97 at *
  generalize Z0.heap.size = i11 at *
  refine wpAnyH_ready (rs := [6, 8, 10]) (by kernel_rfl) (by simp) ?_
  refine AllReadyH.cons (o := ?oi120) ?hi120 (fun K hK => ?step120) ?more120
  case hi120 => simp only [List.getElem?_toArray, List.getElem?_cons_zero, List.getElem?_cons_succ]; rfl
  case step120 =>
    refine goes_ (N := some 35) Tryz.func5 (by kernel_rfl) rfl #[.float .f64 a0, .float .f64 a1, .float .f64 wd, .float .f64 hg] (by rfl) rfl rfl (by (try simp only [List.map_toArray, List.map_cons, List.map_nil]); rfl) ?_
    refine (HRc.out _).mono ?_
    rintro e Z98 ⟨g, gA, rfl, fg, fA, hb⟩
    refine ⟨_, rfl, ?_⟩
    replace f11 := (hb.block _ (blk_lt f11)).trans f11
    refine hK.out _ _ (below_step hHeld hb) (fun hHeld => ?_)
    clear hK K hb
    simp only [Act.put, List.setIfInBounds_toArray, List.set_cons_zero, List.set_cons_succ]
    refine wpAnyH_ready (rs := [8, 10]) (by kernel_rfl) (by simp) ?_
    refine AllReadyH.cons (o := ?oi121) ?hi121 (fun K hK => ?step121) ?more121
    case hi121 => simp only [List.getElem?_toArray, List.getElem?_cons_zero, List.getElem?_cons_succ]; rfl
    case step121 =>
      go_simp
      have lf8 := hHeld.size
      replace f11 := blk_up f11 (.cells #[.float .f64 p0, .float .f64 p1] 24)
      replace fg := blk_up fg (.cells #[.float .f64 p0, .float .f64 p1] 24)
      replace fA := blk_up fA (.cells #[.float .f64 p0, .float .f64 p1] 24)
      have f8 := heap_alloc_new Z98 (.cells #[.float .f64 p0, .float .f64 p1] 24)
      refine hK.out _ _ (below_alloc hHeld _) (fun hHeld => ?_)
      clear hK K
      (try simp only [Act.put, List.setIfInBounds_toArray, List.set_cons_zero, List.set_cons_succ])
      generalize Z98.alloc (.cells #[.float .f64 p0, .float .f64 p1] 24) = Z99 at *
      generalize Z98.heap.size = b8 at *
      refine take_ (oi := ?oi122) (i := 9) (N := some 38) (v := ?v122) ?hi122 (by kernel_rfl) (by kernel_rfl) (by kernel_rfl) ?hQ122 ?hN122 (Or.inl ⟨?hw122, ?hy122⟩) hHeld ?rest122
      case hi122 => simp only [List.getElem?_toArray, List.getElem?_cons_zero, List.getElem?_cons_succ]; rfl
      case hQ122 => exact fun _ _ _ h => h
      case hN122 => rfl
      case hw122 => rfl
      case hy122 => intro W hSw; have z0 := pw_cell_below (show Below _ _ W from hSw) q0; have z1 := pw_cell_below (show Below _ _ W from hSw) q1; have z2 := pw_cell_below (show Below _ _ W from hSw) q2; have z3 := pw_cell_below (show Below _ _ W from hSw) q3; go_simp; (try with_reducible rfl)
      simp only [Act.put, List.setIfInBounds_toArray, List.set_cons_zero, List.set_cons_succ]
      refine wpAnyH_ready (rs := [10]) (by kernel_rfl) (by simp) ?_
      refine AllReadyH.cons (o := ?oi123) ?hi123 (fun K hK => ?step123) AllReadyH.nil
      case hi123 => simp only [List.getElem?_toArray, List.getElem?_cons_zero, List.getElem?_cons_succ]; rfl
      go_simp
      have lf10 := hHeld.size
      have ne := Nat.ne_of_gt (blk_lt f11)
      replace f11 := blk_up f11 (.cells #[.int .i64 0, .int .u32 0, .slice none 0 0, .slice none 0 0, .slice none 0 0, .slice none 0 0] 32)
      replace fg := blk_up fg (.cells #[.int .i64 0, .int .u32 0, .slice none 0 0, .slice none 0 0, .slice none 0 0, .slice none 0 0] 32)
      replace fA := blk_up fA (.cells #[.int .i64 0, .int .u32 0, .slice none 0 0, .slice none 0 0, .slice none 0 0, .slice none 0 0] 32)
      replace f8 := blk_up f8 (.cells #[.int .i64 0, .int .u32 0, .slice none 0 0, .slice none 0 0, .slice none 0 0, .slice none 0 0] 32)
      have f10 := heap_alloc_new Z99 (.cells #[.int .i64 0, .int .u32 0, .slice none 0 0, .slice none 0 0, .slice none 0 0, .slice none 0 0] 32)
      refine hK.out _ _ (below_alloc hHeld _) (fun hHeld => ?_)
      clear hK K
      (try simp only [Act.put, List.setIfInBounds_toArray, List.set_cons_zero, List.set_cons_succ])
      generalize Z99.alloc (.cells #[.int .i64 0, .int .u32 0, .slice none 0 0, .slice none 0 0, .slice none 0 0, .slice none 0 0] 32) = Z100 at *
      generalize Z99.heap.size = i10 at *
      refine wpAnyH_ready (rs := [12]) (by kernel_rfl) (by simp) ?_
      refine AllReadyH.cons (o := ?oi124) ?hi124 (fun K hK => ?step124) AllReadyH.nil
      case hi124 => simp only [List.getElem?_toArray, List.getElem?_cons_zero, List.getElem?_cons_succ]; rfl
      obtain ⟨s0, s1, s2, s3, s4, s5⟩ := cells6 f10
      have s6 := frozen_of_row _ _ 0 _ _ f10
      have s7 := frozen_of_row _ _ 1 _ _ f10
      have s8 := frozen_of_row _ _ 2 _ _ f10
      have s9 := frozen_of_row _ _ 3 _ _ f10
      have s10 := frozen_of_row _ _ 4 _ _ f10
      have s11 := frozen_of_row _ _ 5 _ _ f10
      go_simp
      clear s0 s1 s2 s3 s4 s5 s6 s7 s8 s9 s10 s11
      refine hK.out _ _ (below_set6 hHeld lf10 (.int .i64 3) (.int .u32 0) (.slice none 0 0) (.slice (some ⟨g, 0, none⟩) 1 1) (.slice none 0 0) (.slice none 0 0)) (fun hHeld => ?_)
      clear hK K
      replace f11 := (set6_ne (Ne.symm ne) (.int .i64 3) (.int .u32 0) (.slice none 0 0) (.slice (some ⟨g, 0, none⟩) 1 1) (.slice none 0 0) (.slice none 0 0)).trans f11
      replace fg := (set6_ne (ne_of_obj fg f10 (by simp)) (.int .i64 3) (.int .u32 0) (.slice none 0 0) (.slice (some ⟨g, 0, none⟩) 1 1) (.slice none 0 0) (.slice none 0 0)).trans fg
      replace fA := (set6_ne (ne_of_obj fA f10 (by simp)) (.int .i64 3) (.int .u32 0) (.slice none 0 0) (.slice (some ⟨g, 0, none⟩) 1 1) (.slice none 0 0) (.slice none 0 0)).trans fA
      replace f8 := (set6_ne (ne_of_obj f8 f10 (by simp)) (.int .i64 3) (.int .u32 0) (.slice none 0 0) (.slice (some ⟨g, 0, none⟩) 1 1) (.slice none 0 0) (.slice none 0 0)).trans f8
      replace f10 := set6 f10 (.int .i64 3) (.int .u32 0) (.slice none 0 0) (.slice (some ⟨g, 0, none⟩) 1 1) (.slice none 0 0) (.slice none 0 0)
      generalize ((((((Z100.setCell ⟨i10, 0, none⟩ (.int .i64 3)).setCell ⟨i10, 1, none⟩ (.int .u32 0)).setCell ⟨i10, 2, none⟩ (.slice none 0 0)).setCell ⟨i10, 3, none⟩ (.slice (some ⟨g, 0, none⟩) 1 1)).setCell ⟨i10, 4, none⟩ (.slice none 0 0)).setCell ⟨i10, 5, none⟩ (.slice none 0 0)) = Z101 at *
      refine wpAnyH_ready (rs := [13]) (by kernel_rfl) (by simp) ?_
      refine AllReadyH.cons (o := ?oi125) ?hi125 (fun K hK => ?step125) AllReadyH.nil
      case hi125 => simp only [List.getElem?_toArray, List.getElem?_cons_zero, List.getElem?_cons_succ]; rfl
      obtain ⟨s0, s1, s2, s3, s4, s5⟩ := cells6 f11
      have s6 := frozen_of_row _ _ 0 _ _ f11
      have s7 := frozen_of_row _ _ 1 _ _ f11
      have s8 := frozen_of_row _ _ 2 _ _ f11
      have s9 := frozen_of_row _ _ 3 _ _ f11
      have s10 := frozen_of_row _ _ 4 _ _ f11
      have s11 := frozen_of_row _ _ 5 _ _ f11
      go_simp
      clear s0 s1 s2 s3 s4 s5 s6 s7 s8 s9 s10 s11
      refine hK.out _ _ (below_set6 hHeld lf11 (.int .i64 1) (.int .u32 0) (.slice (some ⟨b8, 0, none⟩) 1 1) (.slice none 0 0) (.slice none 0 0) (.slice none 0 0)) (fun hHeld => ?_)
      clear hK K
      replace fg := (set6_ne (ne_of_obj fg f11 (by simp)) (.int .i64 1) (.int .u32 0) (.slice (some ⟨b8, 0, none⟩) 1 1) (.slice none 0 0) (.slice none 0 0) (.slice none 0 0)).trans fg
      replace fA := (set6_ne (ne_of_obj fA f11 (by simp)) (.int .i64 1) (.int .u32 0) (.slice (some ⟨b8, 0, none⟩) 1 1) (.slice none 0 0) (.slice none 0 0) (.slice none 0 0)).trans fA
      replace f8 := (set6_ne (ne_of_obj f8 f11 (by simp)) (.int .i64 1) (.int .u32 0) (.slice (some ⟨b8, 0, none⟩) 1 1) (.slice none 0 0) (.slice none 0 0) (.slice none 0 0)).trans f8
      replace f10 := (set6_ne (ne) (.int .i64 1) (.int .u32 0) (.slice (some ⟨b8, 0, none⟩) 1 1) (.slice none 0 0) (.slice none 0 0) (.slice none 0 0)).trans f10
      replace f11 := set6 f11 (.int .i64 1) (.int .u32 0) (.slice (some ⟨b8, 0, none⟩) 1 1) (.slice none 0 0) (.slice none 0 0) (.slice none 0 0)
      generalize ((((((Z101.setCell ⟨i11, 0, none⟩ (.int .i64 1)).setCell ⟨i11, 1, none⟩ (.int .u32 0)).setCell ⟨i11, 2, none⟩ (.slice (some ⟨b8, 0, none⟩) 1 1)).setCell ⟨i11, 3, none⟩ (.slice none 0 0)).setCell ⟨i11, 4, none⟩ (.slice none 0 0)).setCell ⟨i11, 5, none⟩ (.slice none 0 0)) = Z102 at *
      refine wpAnyH_done (by kernel_rfl) ?_ _
      refine NoPanic.normal ?_
      show K _ _
      exact REST f10 f11 f8 fg fA hHeld
    refine AllReadyH.cons (o := ?oi126) ?hi126 (fun K hK => ?step126) AllReadyH.nil
    case hi126 => simp only [List.getElem?_toArray, List.getElem?_cons_zero, List.getElem?_cons_succ]; rfl
    go_simp
    have lf10 := hHeld.size
    have ne := Nat.ne_of_gt (blk_lt f11)
    replace f11 := blk_up f11 (.cells #[.int .i64 0, .int .u32 0, .slice none 0 0, .slice none 0 0, .slice none 0 0, .slice none 0 0] 32)
    replace fg := blk_up fg (.cells #[.int .i64 0, .int .u32 0, .slice none 0 0, .slice none 0 0, .slice none 0 0, .slice none 0 0] 32)
    replace fA := blk_up fA (.cells #[.int .i64 0, .int .u32 0, .slice none 0 0, .slice none 0 0, .slice none 0 0, .slice none 0 0] 32)
    have f10 := heap_alloc_new Z98 (.cells #[.int .i64 0, .int .u32 0, .slice none 0 0, .slice none 0 0, .slice none 0 0, .slice none 0 0] 32)
    refine hK.out _ _ (below_alloc hHeld _) (fun hHeld => ?_)
    clear hK K
    (try simp only [Act.put, List.setIfInBounds_toArray, List.set_cons_zero, List.set_cons_succ])
    generalize Z98.alloc (.cells #[.int .i64 0, .int .u32 0, .slice none 0 0, .slice none 0 0, .slice none 0 0, .slice none 0 0] 32) = Z103 at *
    generalize Z98.heap.size = i10 at *
    refine wpAnyH_ready (rs := [8, 12]) (by kernel_rfl) (by simp) ?_
    refine AllReadyH.cons (o := ?oi127) ?hi127 (fun K hK => ?step127) ?more127
    case hi127 => simp only [List.getElem?_toArray, List.getElem?_cons_zero, List.getElem?_cons_succ]; rfl
    case step127 =>
      go_simp
      have lf8 := hHeld.size
      replace f11 := blk_up f11 (.cells #[.float .f64 p0, .float .f64 p1] 24)
      replace fg := blk_up fg (.cells #[.float .f64 p0, .float .f64 p1] 24)
      replace fA := blk_up fA (.cells #[.float .f64 p0, .float .f64 p1] 24)
      replace f10 := blk_up f10 (.cells #[.float .f64 p0, .float .f64 p1] 24)
      have f8 := heap_alloc_new Z103 (.cells #[.float .f64 p0, .float .f64 p1] 24)
      refine hK.out _ _ (below_alloc hHeld _) (fun hHeld => ?_)
      clear hK K
      (try simp only [Act.put, List.setIfInBounds_toArray, List.set_cons_zero, List.set_cons_succ])
      generalize Z103.alloc (.cells #[.float .f64 p0, .float .f64 p1] 24) = Z104 at *
      generalize Z103.heap.size = b8 at *
      refine take_ (oi := ?oi128) (i := 9) (N := some 38) (v := ?v128) ?hi128 (by kernel_rfl) (by kernel_rfl) (by kernel_rfl) ?hQ128 ?hN128 (Or.inl ⟨?hw128, ?hy128⟩) hHeld ?rest128
      case hi128 => simp only [List.getElem?_toArray, List.getElem?_cons_zero, List.getElem?_cons_succ]; rfl
      case hQ128 => exact fun _ _ _ h => h
      case hN128 => rfl
      case hw128 => rfl
      case hy128 => intro W hSw; have z0 := pw_cell_below (show Below _ _ W from hSw) q0; have z1 := pw_cell_below (show Below _ _ W from hSw) q1; have z2 := pw_cell_below (show Below _ _ W from hSw) q2; have z3 := pw_cell_below (show Below _ _ W from hSw) q3; go_simp; (try with_reducible rfl)
      simp only [Act.put, List.setIfInBounds_toArray, List.set_cons_zero, List.set_cons_succ]
      refine wpAnyH_ready (rs := [12]) (by kernel_rfl) (by simp) ?_
      refine AllReadyH.cons (o := ?oi129) ?hi129 (fun K hK => ?step129) AllReadyH.nil
      case hi129 => simp only [List.getElem?_toArray, List.getElem?_cons_zero, List.getElem?_cons_succ]; rfl
      obtain ⟨s0, s1, s2, s3, s4, s5⟩ := cells6 f10
      have s6 := frozen_of_row _ _ 0 _ _ f10
      have s7 := frozen_of_row _ _ 1 _ _ f10
      have s8 := frozen_of_row _ _ 2 _ _ f10
      have s9 := frozen_of_row _ _ 3 _ _ f10
      have s10 := frozen_of_row _ _ 4 _ _ f10
      have s11 := frozen_of_row _ _ 5 _ _ f10
      go_simp
      clear s0 s1 s2 s3 s4 s5 s6 s7 s8 s9 s10 s11
      refine hK.out _ _ (below_set6 hHeld lf10 (.int .i64 3) (.int .u32 0) (.slice none 0 0) (.slice (some ⟨g, 0, none⟩) 1 1) (.slice none 0 0) (.slice none 0 0)) (fun hHeld => ?_)
      clear hK K
      replace f11 := (set6_ne (Ne.symm ne) (.int .i64 3) (.int .u32 0) (.slice none 0 0) (.slice (some ⟨g, 0, none⟩) 1 1) (.slice none 0 0) (.slice none 0 0)).trans f11
      replace fg := (set6_ne (ne_of_obj fg f10 (by simp)) (.int .i64 3) (.int .u32 0) (.slice none 0 0) (.slice (some ⟨g, 0, none⟩) 1 1) (.slice none 0 0) (.slice none 0 0)).trans fg
      replace fA := (set6_ne (ne_of_obj fA f10 (by simp)) (.int .i64 3) (.int .u32 0) (.slice none 0 0) (.slice (some ⟨g, 0, none⟩) 1 1) (.slice none 0 0) (.slice none 0 0)).trans fA
      replace f8 := (set6_ne (ne_of_obj f8 f10 (by simp)) (.int .i64 3) (.int .u32 0) (.slice none 0 0) (.slice (some ⟨g, 0, none⟩) 1 1) (.slice none 0 0) (.slice none 0 0)).trans f8
      replace f10 := set6 f10 (.int .i64 3) (.int .u32 0) (.slice none 0 0) (.slice (some ⟨g, 0, none⟩) 1 1) (.slice none 0 0) (.slice none 0 0)
      generalize ((((((Z104.setCell ⟨i10, 0, none⟩ (.int .i64 3)).setCell ⟨i10, 1, none⟩ (.int .u32 0)).setCell ⟨i10, 2, none⟩ (.slice none 0 0)).setCell ⟨i10, 3, none⟩ (.slice (some ⟨g, 0, none⟩) 1 1)).setCell ⟨i10, 4, none⟩ (.slice none 0 0)).setCell ⟨i10, 5, none⟩ (.slice none 0 0)) = Z105 at *
      refine wpAnyH_ready (rs := [13]) (by kernel_rfl) (by simp) ?_
      refine AllReadyH.cons (o := ?oi130) ?hi130 (fun K hK => ?step130) AllReadyH.nil
      case hi130 => simp only [List.getElem?_toArray, List.getElem?_cons_zero, List.getElem?_cons_succ]; rfl
      obtain ⟨s0, s1, s2, s3, s4, s5⟩ := cells6 f11
      have s6 := frozen_of_row _ _ 0 _ _ f11
      have s7 := frozen_of_row _ _ 1 _ _ f11
      have s8 := frozen_of_row _ _ 2 _ _ f11
      have s9 := frozen_of_row _ _ 3 _ _ f11
      have s10 := frozen_of_row _ _ 4 _ _ f11
      have s11 := frozen_of_row _ _ 5 _ _ f11
      go_simp
      clear s0 s1 s2 s3 s4 s5 s6 s7 s8 s9 s10 s11
      refine hK.out _ _ (below_set6 hHeld lf11 (.int .i64 1) (.int .u32 0) (.slice (some ⟨b8, 0, none⟩) 1 1) (.slice none 0 0) (.slice none 0 0) (.slice none 0 0)) (fun hHeld => ?_)
      clear hK K
      replace fg := (set6_ne (ne_of_obj fg f11 (by simp)) (.int .i64 1) (.int .u32 0) (.slice (some ⟨b8, 0, none⟩) 1 1) (.slice none 0 0) (.slice none 0 0) (.slice none 0 0)).trans fg
      replace fA := (set6_ne (ne_of_obj fA f11 (by simp)) (.int .i64 1) (.int .u32 0) (.slice (some ⟨b8, 0, none⟩) 1 1) (.slice none 0 0) (.slice none 0 0) (.slice none 0 0)).trans fA
      replace f10 := (set6_ne (ne) (.int .i64 1) (.int .u32 0) (.slice (some ⟨b8, 0, none⟩) 1 1) (.slice none 0 0) (.slice none 0 0) (.slice none 0 0)).trans f10
      replace f8 := (set6_ne (ne_of_obj f8 f11 (by simp)) (.int .i64 1) (.int .u32 0) (.slice (some ⟨b8, 0, none⟩) 1 1) (.slice none 0 0) (.slice none 0 0) (.slice none 0 0)).trans f8
      replace f11 := set6 f11 (.int .i64 1) (.int .u32 0) (.slice (some ⟨b8, 0, none⟩) 1 1) (.slice none 0 0) (.slice none 0 0) (.slice none 0 0)
      generalize ((((((Z105.setCell ⟨i11, 0, none⟩ (.int .i64 1)).setCell ⟨i11, 1, none⟩ (.int .u32 0)).setCell ⟨i11, 2, none⟩ (.slice (some ⟨b8, 0, none⟩) 1 1)).setCell ⟨i11, 3, none⟩ (.slice none 0 0)).setCell ⟨i11, 4, none⟩ (.slice none 0 0)).setCell ⟨i11, 5, none⟩ (.slice none 0 0)) = Z106 at *
      refine wpAnyH_done (by kernel_rfl) ?_ _
      refine NoPanic.normal ?_
      show K _ _
      exact REST f10 f11 f8 fg fA hHeld
    refine AllReadyH.cons (o := ?oi131) ?hi131 (fun K hK => ?step131) AllReadyH.nil
    case hi131 => simp only [List.getElem?_toArray, List.getElem?_cons_zero, List.getElem?_cons_succ]; rfl
    obtain ⟨s0, s1, s2, s3, s4, s5⟩ := cells6 f10
    have s6 := frozen_of_row _ _ 0 _ _ f10
    have s7 := frozen_of_row _ _ 1 _ _ f10
    have s8 := frozen_of_row _ _ 2 _ _ f10
    have s9 := frozen_of_row _ _ 3 _ _ f10
    have s10 := frozen_of_row _ _ 4 _ _ f10
    have s11 := frozen_of_row _ _ 5 _ _ f10
    go_simp
    clear s0 s1 s2 s3 s4 s5 s6 s7 s8 s9 s10 s11
    refine hK.out _ _ (below_set6 hHeld lf10 (.int .i64 3) (.int .u32 0) (.slice none 0 0) (.slice (some ⟨g, 0, none⟩) 1 1) (.slice none 0 0) (.slice none 0 0)) (fun hHeld => ?_)
    clear hK K
    replace f11 := (set6_ne (Ne.symm ne) (.int .i64 3) (.int .u32 0) (.slice none 0 0) (.slice (some ⟨g, 0, none⟩) 1 1) (.slice none 0 0) (.slice none 0 0)).trans f11
    replace fg := (set6_ne (ne_of_obj fg f10 (by simp)) (.int .i64 3) (.int .u32 0) (.slice none 0 0) (.slice (some ⟨g, 0, none⟩) 1 1) (.slice none 0 0) (.slice none 0 0)).trans fg
    replace fA := (set6_ne (ne_of_obj fA f10 (by simp)) (.int .i64 3) (.int .u32 0) (.slice none 0 0) (.slice (some ⟨g, 0, none⟩) 1 1) (.slice none 0 0) (.slice none 0 0)).trans fA
    replace f10 := set6 f10 (.int .i64 3) (.int .u32 0) (.slice none 0 0) (.slice (some ⟨g, 0, none⟩) 1 1) (.slice none 0 0) (.slice none 0 0)
    generalize ((((((Z103.setCell ⟨i10, 0, none⟩ (.int .i64 3)).setCell ⟨i10, 1, none⟩ (.int .u32 0)).setCell ⟨i10, 2, none⟩ (.slice none 0 0)).setCell ⟨i10, 3, none⟩ (.slice (some ⟨g, 0, none⟩) 1 1)).setCell ⟨i10, 4, none⟩ (.slice none 0 0)).setCell ⟨i10, 5, none⟩ (.slice none 0 0)) = Z107 at *
    refine wpAnyH_ready (rs := [8]) (by kernel_rfl) (by simp) ?_
    refine AllReadyH.cons (o := ?oi132) ?hi132 (fun K hK => ?step132) AllReadyH.nil
    case hi132 => simp only [List.getElem?_toArray, List.getElem?_cons_zero, List.getElem?_cons_succ]; rfl
    go_simp
    have lf8 := hHeld.size
    replace f11 := blk_up f11 (.cells #[.float .f64 p0, .float .f64 p1] 24)
    replace fg := blk_up fg (.cells #[.float .f64 p0, .float .f64 p1] 24)
    replace fA := blk_up fA (.cells #[.float .f64 p0, .float .f64 p1] 24)
    replace f10 := blk_up f10 (.cells #[.float .f64 p0, .float .f64 p1] 24)
    have f8 := heap_alloc_new Z107 (.cells #[.float .f64 p0, .float .f64 p1] 24)
    refine hK.out _ _ (below_alloc hHeld _) (fun hHeld => ?_)
    clear hK K
    (try simp only [Act.put, List.setIfInBounds_toArray, List.set_cons_zero, List.set_cons_succ])
    generalize Z107.alloc (.cells #[.float .f64 p0, .float .f64 p1] 24) = Z108 at *
    generalize Z107.heap.size = b8 at *
    refine take_ (oi := ?oi133) (i := 9) (N := some 38) (v := ?v133) ?hi133 (by kernel_rfl) (by kernel_rfl) (by kernel_rfl) ?hQ133 ?hN133 (Or.inl ⟨?hw133, ?hy133⟩) hHeld ?rest133
    case hi133 => simp only [List.getElem?_toArray, List.getElem?_cons_zero, List.getElem?_cons_succ]; rfl
    case hQ133 => exact fun _ _ _ h => h
    case hN133 => rfl
    case hw133 => rfl
    case hy133 => intro W hSw; have z0 := pw_cell_below (show Below _ _ W from hSw) q0; have z1 := pw_cell_below (show Below _ _ W from hSw) q1; have z2 := pw_cell_below (show Below _ _ W from hSw) q2; have z3 := pw_cell_below (show Below _ _ W from hSw) q3; go_simp; (try with_reducible rfl)
    simp only [Act.put, List.setIfInBounds_toArray, List.set_cons_zero, List.set_cons_succ]
    refine wpAnyH_ready (rs := [13]) (by kernel_rfl) (by simp) ?_
    refine AllReadyH.cons (o := ?oi134) ?hi134 (fun K hK => ?step134) AllReadyH.nil
    case hi134 => simp only [List.getElem?_toArray, List.getElem?_cons_zero, List.getElem?_cons_succ]; rfl
    obtain ⟨s0, s1, s2, s3, s4, s5⟩ := cells6 f11
    have s6 := frozen_of_row _ _ 0 _ _ f11
    have s7 := frozen_of_row _ _ 1 _ _ f11
    have s8 := frozen_of_row _ _ 2 _ _ f11
    have s9 := frozen_of_row _ _ 3 _ _ f11
    have s10 := frozen_of_row _ _ 4 _ _ f11
    have s11 := frozen_of_row _ _ 5 _ _ f11
    go_simp
    clear s0 s1 s2 s3 s4 s5 s6 s7 s8 s9 s10 s11
    refine hK.out _ _ (below_set6 hHeld lf11 (.int .i64 1) (.int .u32 0) (.slice (some ⟨b8, 0, none⟩) 1 1) (.slice none 0 0) (.slice none 0 0) (.slice none 0 0)) (fun hHeld => ?_)
    clear hK K
    replace fg := (set6_ne (ne_of_obj fg f11 (by simp)) (.int .i64 1) (.int .u32 0) (.slice (some ⟨b8, 0, none⟩) 1 1) (.slice none 0 0) (.slice none 0 0) (.slice none 0 0)).trans fg
    replace fA := (set6_ne (ne_of_obj fA f11 (by simp)) (.int .i64 1) (.int .u32 0) (.slice (some ⟨b8, 0, none⟩) 1 1) (.slice none 0 0) (.slice none 0 0) (.slice none 0 0)).trans fA
    replace f10 := (set6_ne (ne) (.int .i64 1) (.int .u32 0) (.slice (some ⟨b8, 0, none⟩) 1 1) (.slice none 0 0) (.slice none 0 0) (.slice none 0 0)).trans f10
    replace f8 := (set6_ne (ne_of_obj f8 f11 (by simp)) (.int .i64 1) (.int .u32 0) (.slice (some ⟨b8, 0, none⟩) 1 1) (.slice none 0 0) (.slice none 0 0) (.slice none 0 0)).trans f8
    replace f11 := set6 f11 (.int .i64 1) (.int .u32 0) (.slice (some ⟨b8, 0, none⟩) 1 1) (.slice none 0 0) (.slice none 0 0) (.slice none 0 0)
    generalize ((((((Z108.setCell ⟨i11, 0, none⟩ (.int .i64 1)).setCell ⟨i11, 1, none⟩ (.int .u32 0)).setCell ⟨i11, 2, none⟩ (.slice (some ⟨b8, 0, none⟩) 1 1)).setCell ⟨i11, 3, none⟩ (.slice none 0 0)).setCell ⟨i11, 4, none⟩ (.slice none 0 0)).setCell ⟨i11, 5, none⟩ (.slice none 0 0)) = Z109 at *
    refine wpAnyH_done (by kernel_rfl) ?_ _
    refine NoPanic.normal ?_
    show K _ _
    exact REST f10 f11 f8 fg fA hHeld
  refine AllReadyH.cons (o := ?oi135) ?hi135 (fun K hK => ?step135) ?more135
  case hi135 => simp only [List.getElem?_toArray, List.getElem?_cons_zero, List.getElem?_cons_succ]; rfl
  case step135 =>
    go_simp
    have lf8 := hHeld.size
    replace f11 := blk_up f11 (.cells #[.float .f64 p0, .float .f64 p1] 24)
    have f8 := heap_alloc_new Z97 (.cells #[.float .f64 p0, .float .f64 p1] 24)
    refine hK.out _ _ (below_alloc hHeld _) (fun hHeld => ?_)
    clear hK K
    (try simp only [Act.put, List.setIfInBounds_toArray, List.set_cons_zero, List.set_cons_succ])
    generalize Z97.alloc (.cells #[.float .f64 p0, .float .f64 p1] 24) = Z110 at *
    generalize Z97.heap.size = b8 at *
    refine take_ (oi := ?oi136) (i := 9) (N := some 38) (v := ?v136) ?hi136 (by kernel_rfl) (by kernel_rfl) (by kernel_rfl) ?hQ136 ?hN136 (Or.inl ⟨?hw136, ?hy136⟩) hHeld ?rest136
    case hi136 => simp only [List.getElem?_toArray, List.getElem?_cons_zero, List.getElem?_cons_succ]; rfl
    case hQ136 => exact fun _ _ _ h => h
    case hN136 => rfl
    case hw136 => rfl
    case hy136 => intro W hSw; have z0 := pw_cell_below (show Below _ _ W from hSw) q0; have z1 := pw_cell_below (show Below _ _ W from hSw) q1; have z2 := pw_cell_below (show Below _ _ W from hSw) q2; have z3 := pw_cell_below (show Below _ _ W from hSw) q3; go_simp; (try with_reducible rfl)
    simp only [Act.put, List.setIfInBounds_toArray, List.set_cons_zero, List.set_cons_succ]
    refine wpAnyH_ready (rs := [6, 10]) (by kernel_rfl) (by simp) ?_
    refine AllReadyH.cons (o := ?oi137) ?hi137 (fun K hK => ?step137) ?more137
    case hi137 => simp only [List.getElem?_toArray, List.getElem?_cons_zero, List.getElem?_cons_succ]; rfl
    case step137 =>
      refine goes_ (N := some 35) Tryz.func5 (by kernel_rfl) rfl #[.float .f64 a0, .float .f64 a1, .float .f64 wd, .float .f64 hg] (by rfl) rfl rfl (by (try simp only [List.map_toArray, List.map_cons, List.map_nil]); rfl) ?_
      refine (HRc.out _).mono ?_
      rintro e Z111 ⟨g, gA, rfl, fg, fA, hb⟩
      refine ⟨_, rfl, ?_⟩
      replace f11 := (hb.block _ (blk_lt f11)).trans f11
      replace f8 := (hb.block _ (blk_lt f8)).trans f8
      refine hK.out _ _ (below_step hHeld hb) (fun hHeld => ?_)
      clear hK K hb
      simp only [Act.put, List.setIfInBounds_toArray, List.set_cons_zero, List.set_cons_succ]
      refine wpAnyH_ready (rs := [10]) (by kernel_rfl) (by simp) ?_
      refine AllReadyH.cons (o := ?oi138) ?hi138 (fun K hK => ?step138) AllReadyH.nil
      case hi138 => simp only [List.getElem?_toArray, List.getElem?_cons_zero, List.getElem?_cons_succ]; rfl
      go_simp
      have lf10 := hHeld.size
      have ne := Nat.ne_of_gt (blk_lt f11)
      replace f11 := blk_up f11 (.cells #[.int .i64 0, .int .u32 0, .slice none 0 0, .slice none 0 0, .slice none 0 0, .slice none 0 0] 32)
      replace f8 := blk_up f8 (.cells #[.int .i64 0, .int .u32 0, .slice none 0 0, .slice none 0 0, .slice none 0 0, .slice none 0 0] 32)
      replace fg := blk_up fg (.cells #[.int .i64 0, .int .u32 0, .slice none 0 0, .slice none 0 0, .slice none 0 0, .slice none 0 0] 32)
      replace fA := blk_up fA (.cells #[.int .i64 0, .int .u32 0, .slice none 0 0, .slice none 0 0, .slice none 0 0, .slice none 0 0] 32)
      have f10 := heap_alloc_new Z111 (.cells #[.int .i64 0, .int .u32 0, .slice none 0 0, .slice none 0 0, .slice none 0 0, .slice none 0 0] 32)
      refine hK.out _ _ (below_alloc hHeld _) (fun hHeld => ?_)
      clear hK K
      (try simp only [Act.put, List.setIfInBounds_toArray, List.set_cons_zero, List.set_cons_succ])
      generalize Z111.alloc (.cells #[.int .i64 0, .int .u32 0, .slice none 0 0, .slice none 0 0, .slice none 0 0, .slice none 0 0] 32) = Z112 at *
      generalize Z111.heap.size = i10 at *
      refine wpAnyH_ready (rs := [12]) (by kernel_rfl) (by simp) ?_
      refine AllReadyH.cons (o := ?oi139) ?hi139 (fun K hK => ?step139) AllReadyH.nil
      case hi139 => simp only [List.getElem?_toArray, List.getElem?_cons_zero, List.getElem?_cons_succ]; rfl
      obtain ⟨s0, s1, s2, s3, s4, s5⟩ := cells6 f10
      have s6 := frozen_of_row _ _ 0 _ _ f10
      have s7 := frozen_of_row _ _ 1 _ _ f10
      have s8 := frozen_of_row _ _ 2 _ _ f10
      have s9 := frozen_of_row _ _ 3 _ _ f10
      have s10 := frozen_of_row _ _ 4 _ _ f10
      have s11 := frozen_of_row _ _ 5 _ _ f10
      go_simp
      clear s0 s1 s2 s3 s4 s5 s6 s7 s8 s9 s10 s11
      refine hK.out _ _ (below_set6 hHeld lf10 (.int .i64 3) (.int .u32 0) (.slice none 0 0) (.slice (some ⟨g, 0, none⟩) 1 1) (.slice none 0 0) (.slice none 0 0)) (fun hHeld => ?_)
      clear hK K
      replace f11 := (set6_ne (Ne.symm ne) (.int .i64 3) (.int .u32 0) (.slice none 0 0) (.slice (some ⟨g, 0, none⟩) 1 1) (.slice none 0 0) (.slice none 0 0)).trans f11
      replace f8 := (set6_ne (ne_of_obj f8 f10 (by simp)) (.int .i64 3) (.int .u32 0) (.slice none 0 0) (.slice (some ⟨g, 0, none⟩) 1 1) (.slice none 0 0) (.slice none 0 0)).trans f8
      replace fg := (set6_ne (ne_of_obj fg f10 (by simp)) (.int .i64 3) (.int .u32 0) (.slice none 0 0) (.slice (some ⟨g, 0, none⟩) 1 1) (.slice none 0 0) (.slice none 0 0)).trans fg
      replace fA := (set6_ne (ne_of_obj fA f10 (by simp)) (.int .i64 3) (.int .u32 0) (.slice none 0 0) (.slice (some ⟨g, 0, none⟩) 1 1) (.slice none 0 0) (.slice none 0 0)).trans fA
      replace f10 := set6 f10 (.int .i64 3) (.int .u32 0) (.slice none 0 0) (.slice (some ⟨g, 0, none⟩) 1 1) (.slice none 0 0) (.slice none 0 0)
      generalize ((((((Z112.setCell ⟨i10, 0, none⟩ (.int .i64 3)).setCell ⟨i10, 1, none⟩ (.int .u32 0)).setCell ⟨i10, 2, none⟩ (.slice none 0 0)).setCell ⟨i10, 3, none⟩ (.slice (some ⟨g, 0, none⟩) 1 1)).setCell ⟨i10, 4, none⟩ (.slice none 0 0)).setCell ⟨i10, 5, none⟩ (.slice none 0 0)) = Z113 at *
      refine wpAnyH_ready (rs := [13]) (by kernel_rfl) (by simp) ?_
      refine AllReadyH.cons (o := ?oi140) ?hi140 (fun K hK => ?step140) AllReadyH.nil
      case hi140 => simp only [List.getElem?_toArray, List.getElem?_cons_zero, List.getElem?_cons_succ]; rfl
      obtain ⟨s0, s1, s2, s3, s4, s5⟩ := cells6 f11
      have s6 := frozen_of_row _ _ 0 _ _ f11
      have s7 := frozen_of_row _ _ 1 _ _ f11
      have s8 := frozen_of_row _ _ 2 _ _ f11
      have s9 := frozen_of_row _ _ 3 _ _ f11
      have s10 := frozen_of_row _ _ 4 _ _ f11
      have s11 := frozen_of_row _ _ 5 _ _ f11
      go_simp
      clear s0 s1 s2 s3 s4 s5 s6 s7 s8 s9 s10 s11
      refine hK.out _ _ (below_set6 hHeld lf11 (.int .i64 1) (.int .u32 0) (.slice (some ⟨b8, 0, none⟩) 1 1) (.slice none 0 0) (.slice none 0 0) (.slice none 0 0)) (fun hHeld => ?_)
      clear hK K
      replace f8 := (set6_ne (ne_of_obj f8 f11 (by simp)) (.int .i64 1) (.int .u32 0) (.slice (some ⟨b8, 0, none⟩) 1 1) (.slice none 0 0) (.slice none 0 0) (.slice none 0 0)).trans f8
      replace fg := (set6_ne (ne_of_obj fg f11 (by simp)) (.int .i64 1) (.int .u32 0) (.slice (some ⟨b8, 0, none⟩) 1 1) (.slice none 0 0) (.slice none 0 0) (.slice none 0 0)).trans fg
      replace fA := (set6_ne (ne_of_obj fA f11 (by simp)) (.int .i64 1) (.int .u32 0) (.slice (some ⟨b8, 0, none⟩) 1 1) (.slice none 0 0) (.slice none 0 0) (.slice none 0 0)).trans fA
      replace f10 := (set6_ne (ne) (.int .i64 1) (.int .u32 0) (.slice (some ⟨b8, 0, none⟩) 1 1) (.slice none 0 0) (.slice none 0 0) (.slice none 0 0)).trans f10
      replace f11 := set6 f11 (.int .i64 1) (.int .u32 0) (.slice (some ⟨b8, 0, none⟩) 1 1) (.slice none 0 0) (.slice none 0 0) (.slice none 0 0)
      generalize ((((((Z113.setCell ⟨i11, 0, none⟩ (.int .i64 1)).setCell ⟨i11, 1, none⟩ (.int .u32 0)).setCell ⟨i11, 2, none⟩ (.slice (some ⟨b8, 0, none⟩) 1 1)).setCell ⟨i11, 3, none⟩ (.slice none 0 0)).setCell ⟨i11, 4, none⟩ (.slice none 0 0)).setCell ⟨i11, 5, none⟩ (.slice none 0 0)) = Z114 at *
      refine wpAnyH_done (by kernel_rfl) ?_ _
      refine NoPanic.normal ?_
      show K _ _
      exact REST f10 f11 f8 fg fA hHeld
    refine AllReadyH.cons (o := ?oi141) ?hi141 (fun K hK => ?step141) AllReadyH.nil
    case hi141 => simp only [List.getElem?_toArray, List.getElem?_cons_zero, List.getElem?_cons_succ]; rfl
    go_simp
    have lf10 := hHeld.size
    have ne := Nat.ne_of_gt (blk_lt f11)
    replace f11 := blk_up f11 (.cells #[.int .i64 0, .int .u32 0, .slice none 0 0, .slice none 0 0, .slice none 0 0, .slice none 0 0] 32)
    replace f8 := blk_up f8 (.cells #[.int .i64 0, .int .u32 0, .slice none 0 0, .slice none 0 0, .slice none 0 0, .slice none 0 0] 32)
    have f10 := heap_alloc_new Z110 (.cells #[.int .i64 0, .int .u32 0, .slice none 0 0, .slice none 0 0, .slice none 0 0, .slice none 0 0] 32)
    refine hK.out _ _ (below_alloc hHeld _) (fun hHeld => ?_)
    clear hK K
    (try simp only [Act.put, List.setIfInBounds_toArray, List.set_cons_zero, List.set_cons_succ])
    generalize Z110.alloc (.cells #[.int .i64 0, .int .u32 0, .slice none 0 0, .slice none 0 0, .slice none 0 0, .slice none 0 0] 32) = Z115 at *
    generalize Z110.heap.size = i10 at *
    refine wpAnyH_ready (rs := [6]) (by kernel_rfl) (by simp) ?_
    refine AllReadyH.cons (o := ?oi142) ?hi142 (fun K hK => ?step142) AllReadyH.nil
    case hi142 => simp only [List.getElem?_toArray, List.getElem?_cons_zero, List.getElem?_cons_succ]; rfl
    refine goes_ (N := some 35) Tryz.func5 (by kernel_rfl) rfl #[.float .f64 a0, .float .f64 a1, .float .f64 wd, .float .f64 hg] (by rfl) rfl rfl (by (try simp only [List.map_toArray, List.map_cons, List.map_nil]); rfl) ?_
    refine (HRc.out _).mono ?_
    rintro e Z116 ⟨g, gA, rfl, fg, fA, hb⟩
    refine ⟨_, rfl, ?_⟩
    replace f11 := (hb.block _ (blk_lt f11)).trans f11
    replace f8 := (hb.block _ (blk_lt f8)).trans f8
    replace f10 := (hb.block _ (blk_lt f10)).trans f10
    refine hK.out _ _ (below_step hHeld hb) (fun hHeld => ?_)
    clear hK K hb
    simp only [Act.put, List.setIfInBounds_toArray, List.set_cons_zero, List.set_cons_succ]
    refine wpAnyH_ready (rs := [12]) (by kernel_rfl) (by simp) ?_
    refine AllReadyH.cons (o := ?oi143) ?hi143 (fun K hK => ?step143) AllReadyH.nil
    case hi143 => simp only [List.getElem?_toArray, List.getElem?_cons_zero, List.getElem?_cons_succ]; rfl
    obtain ⟨s0, s1, s2, s3, s4, s5⟩ := cells6 f10
    have s6 := frozen_of_row _ _ 0 _ _ f10
    have s7 := frozen_of_row _ _ 1 _ _ f10
    have s8 := frozen_of_row _ _ 2 _ _ f10
    have s9 := frozen_of_row _ _ 3 _ _ f10
    have s10 := frozen_of_row _ _ 4 _ _ f10
    have s11 := frozen_of_row _ _ 5 _ _ f10
    go_simp
    clear s0 s1 s2 s3 s4 s5 s6 s7 s8 s9 s10 s11
    refine hK.out _ _ (below_set6 hHeld lf10 (.int .i64 3) (.int .u32 0) (.slice none 0 0) (.slice (some ⟨g, 0, none⟩) 1 1) (.slice none 0 0) (.slice none 0 0)) (fun hHeld => ?_)
    clear hK K
    replace f11 := (set6_ne (Ne.symm ne) (.int .i64 3) (.int .u32 0) (.slice none 0 0) (.slice (some ⟨g, 0, none⟩) 1 1) (.slice none 0 0) (.slice none 0 0)).trans f11
    replace f8 := (set6_ne (ne_of_obj f8 f10 (by simp)) (.int .i64 3) (.int .u32 0) (.slice none 0 0) (.slice (some ⟨g, 0, none⟩) 1 1) (.slice none 0 0) (.slice none 0 0)).trans f8
    replace fg := (set6_ne (ne_of_obj fg f10 (by simp)) (.int .i64 3) (.int .u32 0) (.slice none 0 0) (.slice (some ⟨g, 0, none⟩) 1 1) (.slice none 0 0) (.slice none 0 0)).trans fg
    replace fA := (set6_ne (ne_of_obj fA f10 (by simp)) (.int .i64 3) (.int .u32 0) (.slice none 0 0) (.slice (some ⟨g, 0, none⟩) 1 1) (.slice none 0 0) (.slice none 0 0)).trans fA
    replace f10 := set6 f10 (.int .i64 3) (.int .u32 0) (.slice none 0 0) (.slice (some ⟨g, 0, none⟩) 1 1) (.slice none 0 0) (.slice none 0 0)
    generalize ((((((Z116.setCell ⟨i10, 0, none⟩ (.int .i64 3)).setCell ⟨i10, 1, none⟩ (.int .u32 0)).setCell ⟨i10, 2, none⟩ (.slice none 0 0)).setCell ⟨i10, 3, none⟩ (.slice (some ⟨g, 0, none⟩) 1 1)).setCell ⟨i10, 4, none⟩ (.slice none 0 0)).setCell ⟨i10, 5, none⟩ (.slice none 0 0)) = Z117 at *
    refine wpAnyH_ready (rs := [13]) (by kernel_rfl) (by simp) ?_
    refine AllReadyH.cons (o := ?oi144) ?hi144 (fun K hK => ?step144) AllReadyH.nil
    case hi144 => simp only [List.getElem?_toArray, List.getElem?_cons_zero, List.getElem?_cons_succ]; rfl
    obtain ⟨s0, s1, s2, s3, s4, s5⟩ := cells6 f11
    have s6 := frozen_of_row _ _ 0 _ _ f11
    have s7 := frozen_of_row _ _ 1 _ _ f11
    have s8 := frozen_of_row _ _ 2 _ _ f11
    have s9 := frozen_of_row _ _ 3 _ _ f11
    have s10 := frozen_of_row _ _ 4 _ _ f11
    have s11 := frozen_of_row _ _ 5 _ _ f11
    go_simp
    clear s0 s1 s2 s3 s4 s5 s6 s7 s8 s9 s10 s11
    refine hK.out _ _ (below_set6 hHeld lf11 (.int .i64 1) (.int .u32 0) (.slice (some ⟨b8, 0, none⟩) 1 1) (.slice none 0 0) (.slice none 0 0) (.slice none 0 0)) (fun hHeld => ?_)
    clear hK K
    replace f8 := (set6_ne (ne_of_obj f8 f11 (by simp)) (.int .i64 1) (.int .u32 0) (.slice (some ⟨b8, 0, none⟩) 1 1) (.slice none 0 0) (.slice none 0 0) (.slice none 0 0)).trans f8
    replace f10 := (set6_ne (ne) (.int .i64 1) (.int .u32 0) (.slice (some ⟨b8, 0, none⟩) 1 1) (.slice none 0 0) (.slice none 0 0) (.slice none 0 0)).trans f10
    replace fg := (set6_ne (ne_of_obj fg f11 (by simp)) (.int .i64 1) (.int .u32 0) (.slice (some ⟨b8, 0, none⟩) 1 1) (.slice none 0 0) (.slice none 0 0) (.slice none 0 0)).trans fg
    replace fA := (set6_ne (ne_of_obj fA f11 (by simp)) (.int .i64 1) (.int .u32 0) (.slice (some ⟨b8, 0, none⟩) 1 1) (.slice none 0 0) (.slice none 0 0) (.slice none 0 0)).trans fA
    replace f11 := set6 f11 (.int .i64 1) (.int .u32 0) (.slice (some ⟨b8, 0, none⟩) 1 1) (.slice none 0 0) (.slice none 0 0) (.slice none 0 0)
    generalize ((((((Z117.setCell ⟨i11, 0, none⟩ (.int .i64 1)).setCell ⟨i11, 1, none⟩ (.int .u32 0)).setCell ⟨i11, 2, none⟩ (.slice (some ⟨b8, 0, none⟩) 1 1)).setCell ⟨i11, 3, none⟩ (.slice none 0 0)).setCell ⟨i11, 4, none⟩ (.slice none 0 0)).setCell ⟨i11, 5, none⟩ (.slice none 0 0)) = Z118 at *
    refine wpAnyH_done (by kernel_rfl) ?_ _
    refine NoPanic.normal ?_
    show K _ _
    exact REST f10 f11 f8 fg fA hHeld
  refine AllReadyH.cons (o := ?oi145) ?hi145 (fun K hK => ?step145) AllReadyH.nil
  case hi145 => simp only [List.getElem?_toArray, List.getElem?_cons_zero, List.getElem?_cons_succ]; rfl
  go_simp
  have lf10 := hHeld.size
  have ne := Nat.ne_of_gt (blk_lt f11)
  replace f11 := blk_up f11 (.cells #[.int .i64 0, .int .u32 0, .slice none 0 0, .slice none 0 0, .slice none 0 0, .slice none 0 0] 32)
  have f10 := heap_alloc_new Z97 (.cells #[.int .i64 0, .int .u32 0, .slice none 0 0, .slice none 0 0, .slice none 0 0, .slice none 0 0] 32)
  refine hK.out _ _ (below_alloc hHeld _) (fun hHeld => ?_)
  clear hK K
  (try simp only [Act.put, List.setIfInBounds_toArray, List.set_cons_zero, List.set_cons_succ])
  generalize Z97.alloc (.cells #[.int .i64 0, .int .u32 0, .slice none 0 0, .slice none 0 0, .slice none 0 0, .slice none 0 0] 32) = Z119 at *
  generalize Z97.heap.size = i10 at *
  refine wpAnyH_ready (rs := [6, 8]) (by kernel_rfl) (by simp) ?_
  refine AllReadyH.cons (o := ?oi146) ?hi146 (fun K hK => ?step146) ?more146
  case hi146 => simp only [List.getElem?_toArray, List.getElem?_cons_zero, List.getElem?_cons_succ]; rfl
  case step146 =>
    refine goes_ (N := some 35) Tryz.func5 (by kernel_rfl) rfl #[.float .f64 a0, .float .f64 a1, .float .f64 wd, .float .f64 hg] (by rfl) rfl rfl (by (try simp only [List.map_toArray, List.map_cons, List.map_nil]); rfl) ?_
    refine (HRc.out _).mono ?_
    rintro e Z120 ⟨g, gA, rfl, fg, fA, hb⟩
    refine ⟨_, rfl, ?_⟩
    replace f11 := (hb.block _ (blk_lt f11)).trans f11
    replace f10 := (hb.block _ (blk_lt f10)).trans f10
    refine hK.out _ _ (below_step hHeld hb) (fun hHeld => ?_)
    clear hK K hb
    simp only [Act.put, List.setIfInBounds_toArray, List.set_cons_zero, List.set_cons_succ]
    refine wpAnyH_ready (rs := [8, 12]) (by kernel_rfl) (by simp) ?_
    refine AllReadyH.cons (o := ?oi147) ?hi147 (fun K hK => ?step147) ?more147
    case hi147 => simp only [List.getElem?_toArray, List.getElem?_cons_zero, List.getElem?_cons_succ]; rfl
    case step147 =>
      go_simp
      have lf8 := hHeld.size
      replace f11 := blk_up f11 (.cells #[.float .f64 p0, .float .f64 p1] 24)
      replace f10 := blk_up f10 (.cells #[.float .f64 p0, .float .f64 p1] 24)
      replace fg := blk_up fg (.cells #[.float .f64 p0, .float .f64 p1] 24)
      replace fA := blk_up fA (.cells #[.float .f64 p0, .float .f64 p1] 24)
      have f8 := heap_alloc_new Z120 (.cells #[.float .f64 p0, .float .f64 p1] 24)
      refine hK.out _ _ (below_alloc hHeld _) (fun hHeld => ?_)
      clear hK K
      (try simp only [Act.put, List.setIfInBounds_toArray, List.set_cons_zero, List.set_cons_succ])
      generalize Z120.alloc (.cells #[.float .f64 p0, .float .f64 p1] 24) = Z121 at *
      generalize Z120.heap.size = b8 at *
      refine take_ (oi := ?oi148) (i := 9) (N := some 38) (v := ?v148) ?hi148 (by kernel_rfl) (by kernel_rfl) (by kernel_rfl) ?hQ148 ?hN148 (Or.inl ⟨?hw148, ?hy148⟩) hHeld ?rest148
      case hi148 => simp only [List.getElem?_toArray, List.getElem?_cons_zero, List.getElem?_cons_succ]; rfl
      case hQ148 => exact fun _ _ _ h => h
      case hN148 => rfl
      case hw148 => rfl
      case hy148 => intro W hSw; have z0 := pw_cell_below (show Below _ _ W from hSw) q0; have z1 := pw_cell_below (show Below _ _ W from hSw) q1; have z2 := pw_cell_below (show Below _ _ W from hSw) q2; have z3 := pw_cell_below (show Below _ _ W from hSw) q3; go_simp; (try with_reducible rfl)
      simp only [Act.put, List.setIfInBounds_toArray, List.set_cons_zero, List.set_cons_succ]
      refine wpAnyH_ready (rs := [12]) (by kernel_rfl) (by simp) ?_
      refine AllReadyH.cons (o := ?oi149) ?hi149 (fun K hK => ?step149) AllReadyH.nil
      case hi149 => simp only [List.getElem?_toArray, List.getElem?_cons_zero, List.getElem?_cons_succ]; rfl
      obtain ⟨s0, s1, s2, s3, s4, s5⟩ := cells6 f10
      have s6 := frozen_of_row _ _ 0 _ _ f10
      have s7 := frozen_of_row _ _ 1 _ _ f10
      have s8 := frozen_of_row _ _ 2 _ _ f10
      have s9 := frozen_of_row _ _ 3 _ _ f10
      have s10 := frozen_of_row _ _ 4 _ _ f10
      have s11 := frozen_of_row _ _ 5 _ _ f10
      go_simp
      clear s0 s1 s2 s3 s4 s5 s6 s7 s8 s9 s10 s11
      refine hK.out _ _ (below_set6 hHeld lf10 (.int .i64 3) (.int .u32 0) (.slice none 0 0) (.slice (some ⟨g, 0, none⟩) 1 1) (.slice none 0 0) (.slice none 0 0)) (fun hHeld => ?_)
      clear hK K
      replace f11 := (set6_ne (Ne.symm ne) (.int .i64 3) (.int .u32 0) (.slice none 0 0) (.slice (some ⟨g, 0, none⟩) 1 1) (.slice none 0 0) (.slice none 0 0)).trans f11
      replace fg := (set6_ne (ne_of_obj fg f10 (by simp)) (.int .i64 3) (.int .u32 0) (.slice none 0 0) (.slice (some ⟨g, 0, none⟩) 1 1) (.slice none 0 0) (.slice none 0 0)).trans fg
      replace fA := (set6_ne (ne_of_obj fA f10 (by simp)) (.int .i64 3) (.int .u32 0) (.slice none 0 0) (.slice (some ⟨g, 0, none⟩) 1 1) (.slice none 0 0) (.slice none 0 0)).trans fA
      replace f8 := (set6_ne (ne_of_obj f8 f10 (by simp)) (.int .i64 3) (.int .u32 0) (.slice none 0 0) (.slice (some ⟨g, 0, none⟩) 1 1) (.slice none 0 0) (.slice none 0 0)).trans f8
      replace f10 := set6 f10 (.int .i64 3) (.int .u32 0) (.slice none 0 0) (.slice (some ⟨g, 0, none⟩) 1 1) (.slice none 0 0) (.slice none 0 0)
      generalize ((((((Z121.setCell ⟨i10, 0, none⟩ (.int .i64 3)).setCell ⟨i10, 1, none⟩ (.int .u32 0)).setCell ⟨i10, 2, none⟩ (.slice none 0 0)).setCell ⟨i10, 3, none⟩ (.slice (some ⟨g, 0, none⟩) 1 1)).setCell ⟨i10, 4, none⟩ (.slice none 0 0)).setCell ⟨i10, 5, none⟩ (.slice none 0 0)) = Z122 at *
      refine wpAnyH_ready (rs := [13]) (by kernel_rfl) (by simp) ?_
      refine AllReadyH.cons (o := ?oi150) ?hi150 (fun K hK => ?step150) AllReadyH.nil
      case hi150 => simp only [List.getElem?_toArray, List.getElem?_cons_zero, List.getElem?_cons_succ]; rfl
      obtain ⟨s0, s1, s2, s3, s4, s5⟩ := cells6 f11
      have s6 := frozen_of_row _ _ 0 _ _ f11
      have s7 := frozen_of_row _ _ 1 _ _ f11
      have s8 := frozen_of_row _ _ 2 _ _ f11
      have s9 := frozen_of_row _ _ 3 _ _ f11
      have s10 := frozen_of_row _ _ 4 _ _ f11
      have s11 := frozen_of_row _ _ 5 _ _ f11
      go_simp
      clear s0 s1 s2 s3 s4 s5 s6 s7 s8 s9 s10 s11
      refine hK.out _ _ (below_set6 hHeld lf11 (.int .i64 1) (.int .u32 0) (.slice (some ⟨b8, 0, none⟩) 1 1) (.slice none 0 0) (.slice none 0 0) (.slice none 0 0)) (fun hHeld => ?_)
      clear hK K
      replace f10 := (set6_ne (ne) (.int .i64 1) (.int .u32 0) (.slice (some ⟨b8, 0, none⟩) 1 1) (.slice none 0 0) (.slice none 0 0) (.slice none 0 0)).trans f10
      replace fg := (set6_ne (ne_of_obj fg f11 (by simp)) (.int .i64 1) (.int .u32 0) (.slice (some ⟨b8, 0, none⟩) 1 1) (.slice none 0 0) (.slice none 0 0) (.slice none 0 0)).trans fg
      replace fA := (set6_ne (ne_of_obj fA f11 (by simp)) (.int .i64 1) (.int .u32 0) (.slice (some ⟨b8, 0, none⟩) 1 1) (.slice none 0 0) (.slice none 0 0) (.slice none 0 0)).trans fA
      replace f8 := (set6_ne (ne_of_obj f8 f11 (by simp)) (.int .i64 1) (.int .u32 0) (.slice (some ⟨b8, 0, none⟩) 1 1) (.slice none 0 0) (.slice none 0 0) (.slice none 0 0)).trans f8
      replace f11 := set6 f11 (.int .i64 1) (.int .u32 0) (.slice (some ⟨b8, 0, none⟩) 1 1) (.slice none 0 0) (.slice none 0 0) (.slice none 0 0)
      generalize ((((((Z122.setCell ⟨i11, 0, none⟩ (.int .i64 1)).setCell ⟨i11, 1, none⟩ (.int .u32 0)).setCell ⟨i11, 2, none⟩ (.slice (some ⟨b8, 0, none⟩) 1 1)).setCell ⟨i11, 3, none⟩ (.slice none 0 0)).setCell ⟨i11, 4, none⟩ (.slice none 0 0)).setCell ⟨i11, 5, none⟩ (.slice none 0 0)) = Z123 at *
      refine wpAnyH_done (by kernel_rfl) ?_ _
      refine NoPanic.normal ?_
      show K _ _
      exact REST f10 f11 f8 fg fA hHeld
    refine AllReadyH.cons (o := ?oi151) ?hi151 (fun K hK => ?step151) AllReadyH.nil
    case hi151 => simp only [List.getElem?_toArray, List.getElem?_cons_zero, List.getElem?_cons_succ]; rfl
    obtain ⟨s0, s1, s2, s3, s4, s5⟩ := cells6 f10
    have s6 := frozen_of_row _ _ 0 _ _ f10
    have s7 := frozen_of_row _ _ 1 _ _ f10
    have s8 := frozen_of_row _ _ 2 _ _ f10
    have s9 := frozen_of_row _ _ 3 _ _ f10
    have s10 := frozen_of_row _ _ 4 _ _ f10
    have s11 := frozen_of_row _ _ 5 _ _ f10
    go_simp
    clear s0 s1 s2 s3 s4 s5 s6 s7 s8 s9 s10 s11
    refine hK.out _ _ (below_set6 hHeld lf10 (.int .i64 3) (.int .u32 0) (.slice none 0 0) (.slice (some ⟨g, 0, none⟩) 1 1) (.slice none 0 0) (.slice none 0 0)) (fun hHeld => ?_)
    clear hK K
    replace f11 := (set6_ne (Ne.symm ne) (.int .i64 3) (.int .u32 0) (.slice none 0 0) (.slice (some ⟨g, 0, none⟩) 1 1) (.slice none 0 0) (.slice none 0 0)).trans f11
    replace fg := (set6_ne (ne_of_obj fg f10 (by simp)) (.int .i64 3) (.int .u32 0) (.slice none 0 0) (.slice (some ⟨g, 0, none⟩) 1 1) (.slice none 0 0) (.slice none 0 0)).trans fg
    replace fA := (set6_ne (ne_of_obj fA f10 (by simp)) (.int .i64 3) (.int .u32 0) (.slice none 0 0) (.slice (some ⟨g, 0, none⟩) 1 1) (.slice none 0 0) (.slice none 0 0)).trans fA
    replace f10 := set6 f10 (.int .i64 3) (.int .u32 0) (.slice none 0 0) (.slice (some ⟨g, 0, none⟩) 1 1) (.slice none 0 0) (.slice none 0 0)
    generalize ((((((Z120.setCell ⟨i10, 0, none⟩ (.int .i64 3)).setCell ⟨i10, 1, none⟩ (.int .u32 0)).setCell ⟨i10, 2, none⟩ (.slice none 0 0)).setCell ⟨i10, 3, none⟩ (.slice (some ⟨g, 0, none⟩) 1 1)).setCell ⟨i10, 4, none⟩ (.slice none 0 0)).setCell ⟨i10, 5, none⟩ (.slice none 0 0)) = Z124 at *
    refine wpAnyH_ready (rs := [8]) (by kernel_rfl) (by simp) ?_
    refine AllReadyH.cons (o := ?oi152) ?hi152 (fun K hK => ?step152) AllReadyH.nil
    case hi152 => simp only [List.getElem?_toArray, List.getElem?_cons_zero, List.getElem?_cons_succ]; rfl
    go_simp
    have lf8 := hHeld.size
    replace f11 := blk_up f11 (.cells #[.float .f64 p0, .float .f64 p1] 24)
    replace f10 := blk_up f10 (.cells #[.float .f64 p0, .float .f64 p1] 24)
    replace fg := blk_up fg (.cells #[.float .f64 p0, .float .f64 p1] 24)
    replace fA := blk_up fA (.cells #[.float .f64 p0, .float .f64 p1] 24)
    have f8 := heap_alloc_new Z124 (.cells #[.float .f64 p0, .float .f64 p1] 24)
    refine hK.out _ _ (below_alloc hHeld _) (fun hHeld => ?_)
    clear hK K
    (try simp only [Act.put, List.setIfInBounds_toArray, List.set_cons_zero, List.set_cons_succ])
    generalize Z124.alloc (.cells #[.float .f64 p0, .float .f64 p1] 24) = Z125 at *
    generalize Z124.heap.size = b8 at *
    refine take_ (oi := ?oi153) (i := 9) (N := some 38) (v := ?v153) ?hi153 (by kernel_rfl) (by kernel_rfl) (by kernel_rfl) ?hQ153 ?hN153 (Or.inl ⟨?hw153, ?hy153⟩) hHeld ?rest153
    case hi153 => simp only [List.getElem?_toArray, List.getElem?_cons_zero, List.getElem?_cons_succ]; rfl
    case hQ153 => exact fun _ _ _ h => h
    case hN153 => rfl
    case hw153 => rfl
    case hy153 => intro W hSw; have z0 := pw_cell_below (show Below _ _ W from hSw) q0; have z1 := pw_cell_below (show Below _ _ W from hSw) q1; have z2 := pw_cell_below (show Below _ _ W from hSw) q2; have z3 := pw_cell_below (show Below _ _ W from hSw) q3; go_simp; (try with_reducible rfl)
    simp only [Act.put, List.setIfInBounds_toArray, List.set_cons_zero, List.set_cons_succ]
    refine wpAnyH_ready (rs := [13]) (by kernel_rfl) (by simp) ?_
    refine AllReadyH.cons (o := ?oi154) ?hi154 (fun K hK => ?step154) AllReadyH.nil
    case hi154 => simp only [List.getElem?_toArray, List.getElem?_cons_zero, List.getElem?_cons_succ]; rfl
    obtain ⟨s0, s1, s2, s3, s4, s5⟩ := cells6 f11
    have s6 := frozen_of_row _ _ 0 _ _ f11
    have s7 := frozen_of_row _ _ 1 _ _ f11
    have s8 := frozen_of_row _ _ 2 _ _ f11
    have s9 := frozen_of_row _ _ 3 _ _ f11
    have s10 := frozen_of_row _ _ 4 _ _ f11
    have s11 := frozen_of_row _ _ 5 _ _ f11
    go_simp
    clear s0 s1 s2 s3 s4 s5 s6 s7 s8 s9 s10 s11
    refine hK.out _ _ (below_set6 hHeld lf11 (.int .i64 1) (.int .u32 0) (.slice (some ⟨b8, 0, none⟩) 1 1) (.slice none 0 0) (.slice none 0 0) (.slice none 0 0)) (fun hHeld => ?_)
    clear hK K
    replace f10 := (set6_ne (ne) (.int .i64 1) (.int .u32 0) (.slice (some ⟨b8, 0, none⟩) 1 1) (.slice none 0 0) (.slice none 0 0) (.slice none 0 0)).trans f10
    replace fg := (set6_ne (ne_of_obj fg f11 (by simp)) (.int .i64 1) (.int .u32 0) (.slice (some ⟨b8, 0, none⟩) 1 1) (.slice none 0 0) (.slice none 0 0) (.slice none 0 0)).trans fg
    replace fA := (set6_ne (ne_of_obj fA f11 (by simp)) (.int .i64 1) (.int .u32 0) (.slice (some ⟨b8, 0, none⟩) 1 1) (.slice none 0 0) (.slice none 0 0) (.slice none 0 0)).trans fA
    replace f8 := (set6_ne (ne_of_obj f8 f11 (by simp)) (.int .i64 1) (.int .u32 0) (.slice (some ⟨b8, 0, none⟩) 1 1) (.slice none 0 0) (.slice none 0 0) (.slice none 0 0)).trans f8
    replace f11 := set6 f11 (.int .i64 1) (.int .u32 0) (.slice (some ⟨b8, 0, none⟩) 1 1) (.slice none 0 0) (.slice none 0 0) (.slice none 0 0)
    generalize ((((((Z125.setCell ⟨i11, 0, none⟩ (.int .i64 1)).setCell ⟨i11, 1, none⟩ (.int .u32 0)).setCell ⟨i11, 2, none⟩ (.slice (some ⟨b8, 0, none⟩) 1 1)).setCell ⟨i11, 3, none⟩ (.slice none 0 0)).setCell ⟨i11, 4, none⟩ (.slice none 0 0)).setCell ⟨i11, 5, none⟩ (.slice none 0 0)) = Z126 at *
    refine wpAnyH_done (by kernel_rfl) ?_ _
    refine NoPanic.normal ?_
    show K _ _
    exact REST f10 f11 f8 fg fA hHeld
  refine AllReadyH.cons (o := ?oi155) ?hi155 (fun K hK => ?step155) AllReadyH.nil
  case hi155 => simp only [List.getElem?_toArray, List.getElem?_cons_zero, List.getElem?_cons_succ]; rfl
  go_simp
  have lf8 := hHeld.size
  replace f11 := blk_up f11 (.cells #[.float .f64 p0, .float .f64 p1] 24)
  replace f10 := blk_up f10 (.cells #[.float .f64 p0, .float .f64 p1] 24)
  have f8 := heap_alloc_new Z119 (.cells #[.float .f64 p0, .float .f64 p1] 24)
  refine hK.out _ _ (below_alloc hHeld _) (fun hHeld => ?_)
  clear hK K
  (try simp only [Act.put, List.setIfInBounds_toArray, List.set_cons_zero, List.set_cons_succ])
  generalize Z119.alloc (.cells #[.float .f64 p0, .float .f64 p1] 24) = Z127 at *
  generalize Z119.heap.size = b8 at *
  refine take_ (oi := ?oi156) (i := 9) (N := some 38) (v := ?v156) ?hi156 (by kernel_rfl) (by kernel_rfl) (by kernel_rfl) ?hQ156 ?hN156 (Or.inl ⟨?hw156, ?hy156⟩) hHeld ?rest156
  case hi156 => simp only [List.getElem?_toArray, List.getElem?_cons_zero, List.getElem?_cons_succ]; rfl
  case hQ156 => exact fun _ _ _ h => h
  case hN156 => rfl
  case hw156 => rfl
  case hy156 => intro W hSw; have z0 := pw_cell_below (show Below _ _ W from hSw) q0; have z1 := pw_cell_below (show Below _ _ W from hSw) q1; have z2 := pw_cell_below (show Below _ _ W from hSw) q2; have z3 := pw_cell_below (show Below _ _ W from hSw) q3; go_simp; (try with_reducible rfl)
  simp only [Act.put, List.setIfInBounds_toArray, List.set_cons_zero, List.set_cons_succ]
  refine wpAnyH_ready (rs := [6]) (by kernel_rfl) (by simp) ?_
  refine AllReadyH.cons (o := ?oi157) ?hi157 (fun K hK => ?step157) AllReadyH.nil
  case hi157 => simp only [List.getElem?_toArray, List.getElem?_cons_zero, List.getElem?_cons_succ]; rfl
  refine goes_ (N := some 35) Tryz.func5 (by kernel_rfl) rfl #[.float .f64 a0, .float .f64 a1, .float .f64 wd, .float .f64 hg] (by rfl) rfl rfl (by (try simp only [List.map_toArray, List.map_cons, List.map_nil]); rfl) ?_
  refine (HRc.out _).mono ?_
  rintro e Z128 ⟨g, gA, rfl, fg, fA, hb⟩
  refine ⟨_, rfl, ?_⟩
  replace f11 := (hb.block _ (blk_lt f11)).trans f11
  replace f10 := (hb.block _ (blk_lt f10)).trans f10
  replace f8 := (hb.block _ (blk_lt f8)).trans f8
  refine hK.out _ _ (below_step hHeld hb) (fun hHeld => ?_)
  clear hK K hb
  simp only [Act.put, List.setIfInBounds_toArray, List.set_cons_zero, List.set_cons_succ]
  refine wpAnyH_ready (rs := [12]) (by kernel_rfl) (by simp) ?_
  refine AllReadyH.cons (o := ?oi158) ?hi158 (fun K hK => ?step158) AllReadyH.nil
  case hi158 => simp only [List.getElem?_toArray, List.getElem?_cons_zero, List.getElem?_cons_succ]; rfl
  obtain ⟨s0, s1, s2, s3, s4, s5⟩ := cells6 f10
  have s6 := frozen_of_row _ _ 0 _ _ f10
  have s7 := frozen_of_row _ _ 1 _ _ f10
  have s8 := frozen_of_row _ _ 2 _ _ f10
  have s9 := frozen_of_row _ _ 3 _ _ f10
  have s10 := frozen_of_row _ _ 4 _ _ f10
  have s11 := frozen_of_row _ _ 5 _ _ f10
  go_simp
  clear s0 s1 s2 s3 s4 s5 s6 s7 s8 s9 s10 s11
  refine hK.out _ _ (below_set6 hHeld lf10 (.int .i64 3) (.int .u32 0) (.slice none 0 0) (.slice (some ⟨g, 0, none⟩) 1 1) (.slice none 0 0) (.slice none 0 0)) (fun hHeld => ?_)
  clear hK K
  replace f11 := (set6_ne (Ne.symm ne) (.int .i64 3) (.int .u32 0) (.slice none 0 0) (.slice (some ⟨g, 0, none⟩) 1 1) (.slice none 0 0) (.slice none 0 0)).trans f11
  replace f8 := (set6_ne (ne_of_obj f8 f10 (by simp)) (.int .i64 3) (.int .u32 0) (.slice none 0 0) (.slice (some ⟨g, 0, none⟩) 1 1) (.slice none 0 0) (.slice none 0 0)).trans f8
  replace fg := (set6_ne (ne_of_obj fg f10 (by simp)) (.int .i64 3) (.int .u32 0) (.slice none 0 0) (.slice (some ⟨g, 0, none⟩) 1 1) (.slice none 0 0) (.slice none 0 0)).trans fg
  replace fA := (set6_ne (ne_of_obj fA f10 (by simp)) (.int .i64 3) (.int .u32 0) (.slice none 0 0) (.slice (some ⟨g, 0, none⟩) 1 1) (.slice none 0 0) (.slice none 0 0)).trans fA
  replace f10 := set6 f10 (.int .i64 3) (.int .u32 0) (.slice none 0 0) (.slice (some ⟨g, 0, none⟩) 1 1) (.slice none 0 0) (.slice none 0 0)
  generalize ((((((Z128.setCell ⟨i10, 0, none⟩ (.int .i64 3)).setCell ⟨i10, 1, none⟩ (.int .u32 0)).setCell ⟨i10, 2, none⟩ (.slice none 0 0)).setCell ⟨i10, 3, none⟩ (.slice (some ⟨g, 0, none⟩) 1 1)).setCell ⟨i10, 4, none⟩ (.slice none 0 0)).setCell ⟨i10, 5, none⟩ (.slice none 0 0)) = Z129 at *
  refine wpAnyH_ready (rs := [13]) (by kernel_rfl) (by simp) ?_
  refine AllReadyH.cons (o := ?oi159) ?hi159 (fun K hK => ?step159) AllReadyH.nil
  case hi159 => simp only [List.getElem?_toArray, List.getElem?_cons_zero, List.getElem?_cons_succ]; rfl
  obtain ⟨s0, s1, s2, s3, s4, s5⟩ := cells6 f11
  have s6 := frozen_of_row _ _ 0 _ _ f11
  have s7 := frozen_of_row _ _ 1 _ _ f11
  have s8 := frozen_of_row _ _ 2 _ _ f11
  have s9 := frozen_of_row _ _ 3 _ _ f11
  have s10 := frozen_of_row _ _ 4 _ _ f11
  have s11 := frozen_of_row _ _ 5 _ _ f11
  go_simp
  clear s0 s1 s2 s3 s4 s5 s6 s7 s8 s9 s10 s11
  refine hK.out _ _ (below_set6 hHeld lf11 (.int .i64 1) (.int .u32 0) (.slice (some ⟨b8, 0, none⟩) 1 1) (.slice none 0 0) (.slice none 0 0) (.slice none 0 0)) (fun hHeld => ?_)
  clear hK K
  replace f10 := (set6_ne (ne) (.int .i64 1) (.int .u32 0) (.slice (some ⟨b8, 0, none⟩) 1 1) (.slice none 0 0) (.slice none 0 0) (.slice none 0 0)).trans f10
  replace f8 := (set6_ne (ne_of_obj f8 f11 (by simp)) (.int .i64 1) (.int .u32 0) (.slice (some ⟨b8, 0, none⟩) 1 1) (.slice none 0 0) (.slice none 0 0) (.slice none 0 0)).trans f8
  replace fg := (set6_ne (ne_of_obj fg f11 (by simp)) (.int .i64 1) (.int .u32 0) (.slice (some ⟨b8, 0, none⟩) 1 1) (.slice none 0 0) (.slice none 0 0) (.slice none 0 0)).trans fg
  replace fA := (set6_ne (ne_of_obj fA f11 (by simp)) (.int .i64 1) (.int .u32 0) (.slice (some ⟨b8, 0, none⟩) 1 1) (.slice none 0 0) (.slice none 0 0) (.slice none 0 0)).trans fA
  replace f11 := set6 f11 (.int .i64 1) (.int .u32 0) (.slice (some ⟨b8, 0, none⟩) 1 1) (.slice none 0 0) (.slice none 0 0) (.slice none 0 0)
  generalize ((((((Z129.setCell ⟨i11, 0, none⟩ (.int .i64 1)).setCell ⟨i11, 1, none⟩ (.int .u32 0)).setCell ⟨i11, 2, none⟩ (.slice (some ⟨b8, 0, none⟩) 1 1)).setCell ⟨i11, 3, none⟩ (.slice none 0 0)).setCell ⟨i11, 4, none⟩ (.slice none 0 0)).setCell ⟨i11, 5, none⟩ (.slice none 0 0)) = Z130 at *
  refine wpAnyH_done (by kernel_rfl) ?_ _
  refine NoPanic.normal ?_
  show K _ _
  exact REST f10 f11 f8 fg fA hHeld
end Go.Proofs.YtjhgmpeoagndjaaGreat.GE
