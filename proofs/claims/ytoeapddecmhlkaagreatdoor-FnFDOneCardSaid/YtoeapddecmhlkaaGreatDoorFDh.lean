/-
  The walk of the law: of at most one row any columns are a key. Condition: math/bits.deBruijn64tab as laid.
-/
import Derived.Test.YtoeapddecmhlkaaGreatDoorFDf
import Derived.Test.YtoeapddecmhlkaaGreatDoorFDg
namespace Go.Proofs.YtoeapddecmhlkaaGreatDoor.FD
open Go.RowKit Go.Proofs.YtoeapddecmhlkaaGreatDoorW.PrintWords Go.Proofs.YtoeapddecmhlkaaGreatDoorW.PrintLast Go.Proofs.YtoeapddecmhlkaaGreatDoorW.PrintMore
open Go.Proofs.YtoeapddecmhlkaaGreatDoor.PFnFDOne
set_option linter.unusedVariables false
set_option linter.unusedSimpArgs false
set_option maxRecDepth 100000
set_option maxHeartbeats 1000000

theorem law_ok (c n b : Nat) (hc : c ≤ 255) (hn : n ≤ 255) (hb : b ≤ 255) (w : World) (hg : Glob w) :
    Calls Tryz.prog 3 #[.int .u8 (c : Int), .int .u8 (n : Int), .int .u8 (b : Int)] w fun e w' => e = .returned (.bool true) ∧ Below w.heap.size w w' := by
  have hr : Int.tmod (wrap64 (c : Int)) 6 = ((c % 6 : Nat) : Int) := by
    rw [show wrap64 (c : Int) = (c : Int) from by unfold wrap64; omega]
    rfl
  have hm : c % 6 < 6 := Nat.mod_lt _ (by decide)
  generalize c % 6 = m at *
  have HG := Aside0.mk hg
  clear hg hc
  go_enter Tryz.func3, Tryz.ntmps3
  go_wp2
  go_loopw [7, 8] (fun t7 t8 wr => ∃ k : Nat, t8 = .int .i64 (k : Int) ∧ k ≤ m + 1 ∧ Aside0 (Kd.R (Kd.int .i64) 3 wr w.heap.size (fun _ => True) t7 (pre k)) ∧ Aside0 (Below w.heap.size w wr)) (fun _ t8 _ => m + 1 - (intOf t8).toNat)
  case atStart => exact ⟨0, rfl, Nat.zero_le _, ⟨Kd.R_nil _ _ _ _ _⟩, ⟨Below.refl _ _⟩⟩
  case round =>
    obtain ⟨k, rfl, hk, HR, HB⟩ := hrel
    rcases Nat.lt_or_ge m k with hlt | hge
    · obtain rfl : k = m + 1 := by omega
      have hno : ¬ ((m + 1 : Nat) : Int) ≤ (m : Int) := by omega
      have PK := fun v (hv : v ≤ 255) => pick_ok m v hm hv
      have LC := Aside0.mk (cols_all ⟨m, hm⟩)
      have LI := Aside0.mk (isof_all ⟨m, hm⟩)
      have LS := Aside0.mk (same_all ⟨m, hm⟩)
      have LB := cols_in m hm
      obtain ⟨A, c1, he, hle, hC⟩ := Kd.R_reads HR.out
      subst he
      dsimp only at LC LI LS
      generalize pre (m + 1) = L at *
      obtain ⟨r1, hp1, hr1⟩ := PK n hn
      obtain ⟨r2, hp2, hr2⟩ := PK b hb
      have HC := Aside0.mk (fun W (hb : Below wr.heap.size wr W) => Kd.C_below hC hb)
      have P1 := Aside0.mk (laws_fdPick.calls 20 A c1 L (n : Int) r1 wr hC hle hp1)
      have P2 := Aside0.mk (fun W (hb : Below wr.heap.size wr W) => laws_fdPick.calls 20 A c1 L (b : Int) r2 W (Kd.C_below hC hb) hle hp2)
      have FL := Aside0.mk (fun W (q : Nat) (A2 : Option Addr) (c2 : Nat) hg (h : Step1 W q A A2 c1 c2 L r1) => fdLast_ok q A A2 c1 c2 L r1 W hg h)
      rw [LC.out] at FL
      have SI := Aside0.mk (fun W (A' : Option Addr) (k' : Nat) hC' hle' => spec_ISOf.calls 20 A' k' L L W hC' hle' LI.out)
      have SS := Aside0.mk (fun W (hb : Below wr.heap.size wr W) (A' : Option Addr) (k' : Nat) hC' hle' => spec_ISSame.calls 20 A' k' L A c1 L true W hC' hle' (Kd.C_below hC hb) hle LS.out)
      have FK := Aside0.mk (fun W (q : Nat) (A2 A3 : Option Addr) (c2 c3 : Nat) (h : Step1 W q A A2 c1 c2 L r1) (h3 : Lies W A3 r2) => fdKey_ok q A A2 A3 c1 c2 c3 L r1 r2 W h h3)
      have LA := Aside0.mk (fun W (hb : Below wr.heap.size wr W) => (show Lies W A L from ⟨Kd.C_below hC hb, LB⟩))
      have HG2 := Aside0.mk (fun W (hb : Below wr.heap.size wr W) => HG.out.later (below_step HB.out hb))
      have R1 := Aside0.mk hr1
      have R2 := Aside0.mk hr2
      clear PK LC LI LS LB hC hle HC hp1 hp2 hr1 hr2 HR HG hn hb hm
      go_wp2_with fail
      refine (P1.out).mono ?_
      rintro e w2 ⟨v0, rfl, hR1, hb1⟩
      obtain ⟨A2, c2, he2, hle2, hC2⟩ := Kd.R_reads hR1
      subst he2
      have hq := heap_alloc_new w2 (o27 A A2 L.length c1 r1.length c2)
      have hb2 := below_step hb1 (below_alloc (Below.refl w2.heap.size w2) (o27 A A2 L.length c1 r1.length c2))
      have ST := Aside0.mk (show Step1 (w2.alloc (o27 A A2 L.length c1 r1.length c2)) w2.heap.size A A2 c1 c2 L r1 from ⟨hq, LA.out _ hb2, Kd.C_below hC2 (below_alloc (Below.refl _ _) _), R1.out⟩)
      have HB2 := Aside0.mk hb2
      have F1 := Aside0.mk (FL.out _ _ _ _ (HG2.out _ hb2) ST.out)
      clear hq hb2 hC2 hR1 hb1 hle2 P1 FL
      go_wp2_with fail
      refine (F1.out).mono ?_
      rintro e w3 ⟨vs, rfl, ⟨A', n1, k1, B2, n2, k2, B3, n3, k3, B5, n5, k5, B6, n6, k6, rfl, rfl, base, hbs, hRs⟩, hb3⟩
      have ST3 := Aside0.mk (ST.out.below hb3)
      have HB3 := Aside0.mk (below_step HB2.out hb3)
      obtain ⟨A4, k4, he4, hle4, hC4⟩ := Kd.R_reads hRs
      cases he4
      generalize w2.heap.size = q at *
      clear hb3 hRs hbs F1 ST HB2
      have HO := Aside0.mk (below_alloc (Below.refl w3.heap.size w3) (.cells #[.slice A' L.length k1, .slice B2 n2 k2, .slice B3 n3 k3, .slice none 0 0, .slice B5 n5 k5, .slice B6 n6 k6, .bool true, .bool false, .bool true] 30))
      have HB4 := Aside0.mk (below_step HB3.out HO.out)
      have S1 := Aside0.mk (SI.out _ _ _ (Kd.C_below hC4 HO.out) hle4)
      have ST4 := Aside0.mk (ST3.out.below HO.out)
      clear hC4 hle4 SI ST3 HB3 HO
      go_wp2_with fail
      refine (S1.out).mono ?_
      rintro e w5 ⟨v5, rfl, hR5, hb5⟩
      obtain ⟨A5, c5, he5, hle5, hC5⟩ := Kd.R_reads hR5
      subst he5
      have HB5 := Aside0.mk (below_step HB4.out hb5)
      have ST5 := Aside0.mk (ST4.out.below hb5)
      have S2 := Aside0.mk (SS.out _ HB5.out _ _ hC5 hle5)
      clear hR5 hb5 hC5 hle5 HB4 ST4 S1 SS
      go_wp2_with fail
      refine (S2.out).mono ?_
      rintro e w6 ⟨rfl, hd6⟩
      have hb6 := hd6.below
      have HB6 := Aside0.mk (below_step HB5.out hb6)
      have ST6 := Aside0.mk (ST5.out.below hb6)
      have P3 := Aside0.mk (P2.out _ HB6.out)
      clear hd6 hb6 HB5 ST5 S2 P2
      go_wp2_with fail
      refine (P3.out).mono ?_
      rintro e w7 ⟨v7, rfl, hR7, hb7⟩
      obtain ⟨A7, c7, he7, hle7, hC7⟩ := Kd.R_reads hR7
      subst he7
      have HB7 := Aside0.mk (below_step HB6.out hb7)
      have K1 := Aside0.mk (FK.out _ _ _ A7 _ c7 (ST6.out.below hb7) ⟨hC7, R2.out⟩)
      clear hR7 hb7 hC7 hle7 HB6 ST6 P3 FK
      go_wp2_with fail
      refine (K1.out).mono ?_
      rintro e w8 ⟨rfl, hb8⟩
      have HB8 := Aside0.mk (below_step HB7.out hb8)
      clear hb8
      go_wp2_with fail
      go_ret
      exact ⟨rfl, below_step HB.out HB8.out⟩
    · have hyes : (k : Int) ≤ (m : Int) := by omega
      obtain ⟨A, c1, rfl⟩ := Kd.R_slice HR.out
      have hlen := pre_len k
      have hnx := Aside0.mk (pre_next k)
      have hs := HB.out.size
      have hla : ((pre k).length + 1) * 8 ≤ 140737488355328 := by omega
      generalize pre k = acc at *
      go_wp2_with ((with_reducible refine gate_builtin (b := .append) (xs := #[.tmp 19, .tmp 22]) rfl ?_); at_builtin; go_loud (refine Kd.R_append (Kd.int .i64) (w0 := w) (W := wr) w.heap.size rfl (.tmp 19) (.tmp 22) 22 3 (.int .i64 0) 8 rfl Tryz.underlying22 infoI64 rfl (by decide) (by decide) (.slice A acc.length c1) acc (1 + (k : Int)) [.int .i64 (1 + (k : Int))] (fun _ => True) (fun _ => False) rfl rfl rfl (fun _ hk => hk.elim) (fun _ _ => trivial) HR.out HB.out hs hla ?_; intro v1 w3 ho hb3 hg3 hat; clear hg3 hat; have HO3 := Aside0.mk ho; have HB3 := Aside0.mk hb3; clear ho hb3))
      go_roundw
      case rel => exact ⟨k + 1, by go_num, by omega, ⟨by rw [hnx.out]; exact HO3.out⟩, HB3⟩
      case measure => simp [intOf]; omega
end Go.Proofs.YtoeapddecmhlkaaGreatDoor.FD
