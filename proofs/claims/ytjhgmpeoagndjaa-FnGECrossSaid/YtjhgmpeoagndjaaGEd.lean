/-
  Contract of lineSegmentsIntersect at small whole numbers. Condition: whole numbers from -1,000 to 1,000.
-/
import Derived.Test.YtjhgmpeoagndjaaGEc
namespace Go.Proofs.Ytjhgmpeoagndjaa.GE
open Go.RowKit Go.Proofs.YtjhgmpeoagndjaaW.PrintWords Go.Proofs.YtjhgmpeoagndjaaW.PrintLast Go.Proofs.YtjhgmpeoagndjaaW.PrintMore
open Go.Proofs.Ytjhgmpeoagndjaa.Flo
set_option linter.unusedVariables false
set_option linter.unusedSimpArgs false
set_option maxRecDepth 100000
set_option maxHeartbeats 1000000

def segB (o1 o2 o3 o4 : Int) (s1 s2 s3 s4 : Bool) : Bool := (decide (o1 ≠ o2) && decide (o3 ≠ o4)) || ((decide (o1 = 0) && s1) || ((decide (o2 = 0) && s2) || ((decide (o3 = 0) && s3) || (decide (o4 = 0) && s4))))
def segI (ax ay bx b_y cx cy dx dy : Int) : Bool := segB (ori (side ax ay bx b_y cx cy)) (ori (side ax ay bx b_y dx dy)) (ori (side cx cy dx dy ax ay)) (ori (side cx cy dx dy bx b_y)) (onS ax ay bx b_y cx cy) (onS ax ay bx b_y dx dy) (onS cx cy dx dy ax ay) (onS cx cy dx dy bx b_y)
theorem ori_zero (s : Int) : ori s = 0 ↔ s = 0 := by
  unfold ori
  split
  · simp [*]
  · split <;> simp [*]
theorem lineSeg_ok (e1 e2 e3 e4 : Int) (a0 a1 b0 b1 c0 c1 d0 d1 : Nat) (ax ay bx b_y cx cy dx dy : Int) (h1 : Sm a0 ax) (h2 : Sm a1 ay) (h3 : Sm b0 bx) (h4 : Sm b1 b_y) (h5 : Sm c0 cx) (h6 : Sm c1 cy) (h7 : Sm d0 dx) (h8 : Sm d1 dy) (hs1 : ¬ (side ax ay bx b_y cx cy = 0 ∧ side ax ay bx b_y dx dy = 0)) (hs2 : ¬ (side cx cy dx dy ax ay = 0 ∧ side cx cy dx dy bx b_y = 0)) (w : World) :
    Calls Try.prog 24 #[tp e1 a0 a1, tp e2 b0 b1, tp e3 c0 c1, tp e4 d0 d1] w fun e w' => e = .returned (.bool (segI ax ay bx b_y cx cy dx dy)) ∧ Below w.heap.size w w' := by
  have O1 := Aside0.mk (fun W => orient_ok e1 e2 e3 a0 a1 b0 b1 c0 c1 ax ay bx b_y cx cy h1 h2 h3 h4 h5 h6 W)
  have O2 := Aside0.mk (fun W => orient_ok e1 e2 e4 a0 a1 b0 b1 d0 d1 ax ay bx b_y dx dy h1 h2 h3 h4 h7 h8 W)
  have O3 := Aside0.mk (fun W => orient_ok e3 e4 e1 c0 c1 d0 d1 a0 a1 cx cy dx dy ax ay h5 h6 h7 h8 h1 h2 W)
  have O4 := Aside0.mk (fun W => orient_ok e3 e4 e2 c0 c1 d0 d1 b0 b1 cx cy dx dy bx b_y h5 h6 h7 h8 h3 h4 W)
  have T1 := Aside0.mk (fun W => onSeg_ok e1 e2 e3 a0 a1 b0 b1 c0 c1 ax ay bx b_y cx cy h1 h2 h3 h4 h5 h6 W)
  have T2 := Aside0.mk (fun W => onSeg_ok e1 e2 e4 a0 a1 b0 b1 d0 d1 ax ay bx b_y dx dy h1 h2 h3 h4 h7 h8 W)
  have T3 := Aside0.mk (fun W => onSeg_ok e3 e4 e1 c0 c1 d0 d1 a0 a1 cx cy dx dy ax ay h5 h6 h7 h8 h1 h2 W)
  have T4 := Aside0.mk (fun W => onSeg_ok e3 e4 e2 c0 c1 d0 d1 b0 b1 cx cy dx dy bx b_y h5 h6 h7 h8 h3 h4 W)
  have hq1 : ¬ (ori (side ax ay bx b_y cx cy) = 0 ∧ ori (side ax ay bx b_y dx dy) = 0) := fun h => hs1 ⟨(ori_zero _).1 h.1, (ori_zero _).1 h.2⟩
  have hq2 : ¬ (ori (side cx cy dx dy ax ay) = 0 ∧ ori (side cx cy dx dy bx b_y) = 0) := fun h => hs2 ⟨(ori_zero _).1 h.1, (ori_zero _).1 h.2⟩
  clear hs1 hs2
  unfold segI
  generalize ori (side ax ay bx b_y cx cy) = o1 at *
  generalize ori (side ax ay bx b_y dx dy) = o2 at *
  generalize ori (side cx cy dx dy ax ay) = o3 at *
  generalize ori (side cx cy dx dy bx b_y) = o4 at *
  generalize onS ax ay bx b_y cx cy = s1 at *
  generalize onS ax ay bx b_y dx dy = s2 at *
  generalize onS cx cy dx dy ax ay = s3 at *
  generalize onS cx cy dx dy bx b_y = s4 at *
  clear h1 h2 h3 h4 h5 h6 h7 h8
  have hgoal : ∃ r, r = segB o1 o2 o3 o4 s1 s2 s3 s4 := ⟨_, rfl⟩
  obtain ⟨r, hr⟩ := hgoal
  rw [← hr]
  unfold segB at hr
  have HR := Aside0.mk hr
  clear hr
  go_enter Try.func24, Try.ntmps24
  go_wp2_with fail
  refine (O1.out _).mono ?_
  rintro e w2 ⟨rfl, hb⟩
  have K := Aside0.mk (B4.first hb)
  obtain ⟨k1, k2, k3, k4, kb⟩ := K.out
  obtain ⟨x1, x2, x3⟩ := tpc k1
  obtain ⟨x4, x5, x6⟩ := tpc k2
  obtain ⟨x7, x8, x9⟩ := tpc k3
  obtain ⟨y1, y2, y3⟩ := tpc k4
  clear hb k1 k2 k3 k4 kb
  go_wp2_with fail
  refine (O2.out _).mono ?_
  rintro e w3 ⟨rfl, hb⟩
  replace K := Aside0.mk (K.out.later hb)
  clear x1 x2 x3 x4 x5 x6 x7 x8 x9 y1 y2 y3
  obtain ⟨k1, k2, k3, k4, kb⟩ := K.out
  obtain ⟨x1, x2, x3⟩ := tpc k1
  obtain ⟨x4, x5, x6⟩ := tpc k2
  obtain ⟨x7, x8, x9⟩ := tpc k3
  obtain ⟨y1, y2, y3⟩ := tpc k4
  clear hb k1 k2 k3 k4 kb
  go_wp2_with fail
  refine (O3.out _).mono ?_
  rintro e w4 ⟨rfl, hb⟩
  replace K := Aside0.mk (K.out.later hb)
  clear x1 x2 x3 x4 x5 x6 x7 x8 x9 y1 y2 y3
  obtain ⟨k1, k2, k3, k4, kb⟩ := K.out
  obtain ⟨x1, x2, x3⟩ := tpc k1
  obtain ⟨x4, x5, x6⟩ := tpc k2
  obtain ⟨x7, x8, x9⟩ := tpc k3
  obtain ⟨y1, y2, y3⟩ := tpc k4
  clear hb k1 k2 k3 k4 kb
  go_wp2_with fail
  refine (O4.out _).mono ?_
  rintro e w5 ⟨rfl, hb⟩
  replace K := Aside0.mk (K.out.later hb)
  clear x1 x2 x3 x4 x5 x6 x7 x8 x9 y1 y2 y3
  obtain ⟨k1, k2, k3, k4, kb⟩ := K.out
  obtain ⟨x1, x2, x3⟩ := tpc k1
  obtain ⟨x4, x5, x6⟩ := tpc k2
  obtain ⟨x7, x8, x9⟩ := tpc k3
  obtain ⟨y1, y2, y3⟩ := tpc k4
  clear hb k1 k2 k3 k4 kb
  clear O1 O2 O3 O4
  by_cases n1 : o1 = o2
  · have n1' : (o1 == o2) = true := by simpa using n1
    have n1'' : (o1 != o2) = false := by simpa using n1
    by_cases z1 : o1 = 0
    · exfalso; omega
    · have z1' : (o1 == 0) = false := by simpa using z1
      by_cases z2 : o2 = 0
      · exfalso; omega
      · have z2' : (o2 == 0) = false := by simpa using z2
        by_cases z3 : o3 = 0
        · have z3' : (o3 == 0) = true := by simpa using z3
          go_wp2_with fail
          refine (T3.out _).mono ?_
          rintro e u3 ⟨rfl, hb⟩
          replace K := Aside0.mk (K.out.later hb)
          clear x1 x2 x3 x4 x5 x6 x7 x8 x9 y1 y2 y3
          obtain ⟨k1, k2, k3, k4, kb⟩ := K.out
          obtain ⟨x1, x2, x3⟩ := tpc k1
          obtain ⟨x4, x5, x6⟩ := tpc k2
          obtain ⟨x7, x8, x9⟩ := tpc k3
          obtain ⟨y1, y2, y3⟩ := tpc k4
          clear hb k1 k2 k3 k4 kb
          cases s3
          case true =>
            go_wp2_with fail
            go_ret
            exact ⟨by rw [HR.out]; simp [*], K.out.2.2.2.2⟩
          case false =>
            by_cases z4 : o4 = 0
            · exfalso; omega
            · have z4' : (o4 == 0) = false := by simpa using z4
              go_wp2_with fail
              go_ret
              exact ⟨by rw [HR.out]; simp [*], K.out.2.2.2.2⟩
        · have z3' : (o3 == 0) = false := by simpa using z3
          by_cases z4 : o4 = 0
          · have z4' : (o4 == 0) = true := by simpa using z4
            go_wp2_with fail
            refine (T4.out _).mono ?_
            rintro e u4 ⟨rfl, hb⟩
            replace K := Aside0.mk (K.out.later hb)
            clear x1 x2 x3 x4 x5 x6 x7 x8 x9 y1 y2 y3
            obtain ⟨k1, k2, k3, k4, kb⟩ := K.out
            obtain ⟨x1, x2, x3⟩ := tpc k1
            obtain ⟨x4, x5, x6⟩ := tpc k2
            obtain ⟨x7, x8, x9⟩ := tpc k3
            obtain ⟨y1, y2, y3⟩ := tpc k4
            clear hb k1 k2 k3 k4 kb
            cases s4
            case true =>
              go_wp2_with fail
              go_ret
              exact ⟨by rw [HR.out]; simp [*], K.out.2.2.2.2⟩
            case false =>
              go_wp2_with fail
              go_ret
              exact ⟨by rw [HR.out]; simp [*], K.out.2.2.2.2⟩
          · have z4' : (o4 == 0) = false := by simpa using z4
            go_wp2_with fail
            go_ret
            exact ⟨by rw [HR.out]; simp [*], K.out.2.2.2.2⟩
  · have n1' : (o1 == o2) = false := by simpa using n1
    have n1'' : (o1 != o2) = true := by simpa using n1
    by_cases n2 : o3 = o4
    · have n2' : (o3 == o4) = true := by simpa using n2
      have n2'' : (o3 != o4) = false := by simpa using n2
      by_cases z1 : o1 = 0
      · have z1' : (o1 == 0) = true := by simpa using z1
        go_wp2_with fail
        refine (T1.out _).mono ?_
        rintro e u1 ⟨rfl, hb⟩
        replace K := Aside0.mk (K.out.later hb)
        clear x1 x2 x3 x4 x5 x6 x7 x8 x9 y1 y2 y3
        obtain ⟨k1, k2, k3, k4, kb⟩ := K.out
        obtain ⟨x1, x2, x3⟩ := tpc k1
        obtain ⟨x4, x5, x6⟩ := tpc k2
        obtain ⟨x7, x8, x9⟩ := tpc k3
        obtain ⟨y1, y2, y3⟩ := tpc k4
        clear hb k1 k2 k3 k4 kb
        cases s1
        case true =>
          go_wp2_with fail
          go_ret
          exact ⟨by rw [HR.out]; simp [*], K.out.2.2.2.2⟩
        case false =>
          by_cases z2 : o2 = 0
          · exfalso; omega
          · have z2' : (o2 == 0) = false := by simpa using z2
            by_cases z3 : o3 = 0
            · exfalso; omega
            · have z3' : (o3 == 0) = false := by simpa using z3
              by_cases z4 : o4 = 0
              · exfalso; omega
              · have z4' : (o4 == 0) = false := by simpa using z4
                go_wp2_with fail
                go_ret
                exact ⟨by rw [HR.out]; simp [*], K.out.2.2.2.2⟩
      · have z1' : (o1 == 0) = false := by simpa using z1
        by_cases z2 : o2 = 0
        · have z2' : (o2 == 0) = true := by simpa using z2
          go_wp2_with fail
          refine (T2.out _).mono ?_
          rintro e u2 ⟨rfl, hb⟩
          replace K := Aside0.mk (K.out.later hb)
          clear x1 x2 x3 x4 x5 x6 x7 x8 x9 y1 y2 y3
          obtain ⟨k1, k2, k3, k4, kb⟩ := K.out
          obtain ⟨x1, x2, x3⟩ := tpc k1
          obtain ⟨x4, x5, x6⟩ := tpc k2
          obtain ⟨x7, x8, x9⟩ := tpc k3
          obtain ⟨y1, y2, y3⟩ := tpc k4
          clear hb k1 k2 k3 k4 kb
          cases s2
          case true =>
            go_wp2_with fail
            go_ret
            exact ⟨by rw [HR.out]; simp [*], K.out.2.2.2.2⟩
          case false =>
            by_cases z3 : o3 = 0
            · exfalso; omega
            · have z3' : (o3 == 0) = false := by simpa using z3
              by_cases z4 : o4 = 0
              · exfalso; omega
              · have z4' : (o4 == 0) = false := by simpa using z4
                go_wp2_with fail
                go_ret
                exact ⟨by rw [HR.out]; simp [*], K.out.2.2.2.2⟩
        · have z2' : (o2 == 0) = false := by simpa using z2
          by_cases z3 : o3 = 0
          · exfalso; omega
          · have z3' : (o3 == 0) = false := by simpa using z3
            by_cases z4 : o4 = 0
            · exfalso; omega
            · have z4' : (o4 == 0) = false := by simpa using z4
              go_wp2_with fail
              go_ret
              exact ⟨by rw [HR.out]; simp [*], K.out.2.2.2.2⟩
    · have n2' : (o3 == o4) = false := by simpa using n2
      have n2'' : (o3 != o4) = true := by simpa using n2
      go_wp2_with fail
      go_ret
      exact ⟨by rw [HR.out]; simp [*], K.out.2.2.2.2⟩
end Go.Proofs.Ytjhgmpeoagndjaa.GE
