/-
  A base as a float and back; strconv.ParseUint.
-/
import Derived.Test.YthicaehcoingeaaDoorCVt
namespace Go.Proofs.YthicaehcoingeaaDoor.PTV
open Go.RowKit Go.Proofs.YthicaehcoingeaaDoorW.PrintWords Go.Proofs.YthicaehcoingeaaDoorW.PrintLast Go.Proofs.YthicaehcoingeaaDoorW.PrintMore
set_option linter.unusedVariables false
set_option linter.unusedSimpArgs false
set_option maxRecDepth 1000000
set_option maxHeartbeats 4000000

theorem parseUint_ok (s : ByteArray) (b : Nat) (w : World) (hb2 : 2 ≤ b) (hb36 : b ≤ 36) (h0 : 0 < s.size) (hl : s.size ≤ 200) (hd : s.data.toList.all (isDg b) = true) (hv : valOf b s.data.toList < 9223372036854775808) :
    Calls Tryd.prog 111 #[.string s, .int .i64 b, .int .i64 64] w fun e w' => e = .returned (.tuple #[.int .u64 (valOf b s.data.toList), .nilIface]) ∧ Below w.heap.size w w' := by
  go_enter Tryd.func111, Tryd.ntmps111
  go_wp2_with fail
  refine (parse_ok s b _ hb2 hb36 h0 hl hd hv).mono ?_
  rintro e w' ⟨rfl, hb⟩
  go_wp2_with fail
  go_ret2
  exact ⟨rfl, hb⟩
def fbits : Nat → Nat
  | 2 => 4611686018427387904
  | 3 => 4613937818241073152
  | 4 => 4616189618054758400
  | 5 => 4617315517961601024
  | 6 => 4618441417868443648
  | 7 => 4619567317775286272
  | 8 => 4620693217682128896
  | 9 => 4621256167635550208
  | 10 => 4621819117588971520
  | 11 => 4622382067542392832
  | 12 => 4622945017495814144
  | 13 => 4623507967449235456
  | 14 => 4624070917402656768
  | 15 => 4624633867356078080
  | 16 => 4625196817309499392
  | 17 => 4625478292286210048
  | 18 => 4625759767262920704
  | 19 => 4626041242239631360
  | 20 => 4626322717216342016
  | 21 => 4626604192193052672
  | 22 => 4626885667169763328
  | 23 => 4627167142146473984
  | 24 => 4627448617123184640
  | 25 => 4627730092099895296
  | 26 => 4628011567076605952
  | 27 => 4628293042053316608
  | 28 => 4628574517030027264
  | 29 => 4628855992006737920
  | 30 => 4629137466983448576
  | 31 => 4629418941960159232
  | 32 => 4629700416936869888
  | 33 => 4629841154425225216
  | 34 => 4629981891913580544
  | 35 => 4630122629401935872
  | 36 => 4630263366890291200
  | _ => 0
theorem base_float (b : Nat) (hb2 : 2 ≤ b) (hb36 : b ≤ 36) : (∀ w, (convert 2 64 (.int .i64 b)).run Tryd.prog w = .ok (.float .f64 (fbits b)) w) ∧ (∀ w, (convert 64 3 (.float .f64 (fbits b))).run Tryd.prog w = .ok (.int .i64 b) w) ∧
    (∀ w, (callFunc 58 #[.float .f64 (fbits b)]).run Tryd.prog w = .ok (.value (.int .u64 (fbits b))) w) ∧ (∀ w, (callFunc 38 #[.int .u64 (fbits b)]).run Tryd.prog w = .ok (.value (.float .f64 (fbits b))) w) ∧
    bits .andNot .u64 (fbits b : Int) 9223372036854775808 = fbits b := by
  obtain rfl | rfl | rfl | rfl | rfl | rfl | rfl | rfl | rfl | rfl | rfl | rfl | rfl | rfl | rfl | rfl | rfl | rfl | rfl | rfl | rfl | rfl | rfl | rfl | rfl | rfl | rfl | rfl | rfl | rfl | rfl | rfl | rfl | rfl | rfl : b = 2 ∨ b = 3 ∨ b = 4 ∨ b = 5 ∨ b = 6 ∨ b = 7 ∨ b = 8 ∨ b = 9 ∨ b = 10 ∨ b = 11 ∨ b = 12 ∨ b = 13 ∨ b = 14 ∨ b = 15 ∨ b = 16 ∨ b = 17 ∨ b = 18 ∨ b = 19 ∨ b = 20 ∨ b = 21 ∨ b = 22 ∨ b = 23 ∨ b = 24 ∨ b = 25 ∨ b = 26 ∨ b = 27 ∨ b = 28 ∨ b = 29 ∨ b = 30 ∨ b = 31 ∨ b = 32 ∨ b = 33 ∨ b = 34 ∨ b = 35 ∨ b = 36 := by omega
  all_goals exact ⟨fun w => by kernel_rfl, fun w => by kernel_rfl, fun w => by kernel_rfl, fun w => by kernel_rfl, by kernel_rfl⟩
theorem abs_ok (b : Nat) (hb2 : 2 ≤ b) (hb36 : b ≤ 36) (w : World) : Calls Tryd.prog 108 #[.float .f64 (fbits b)] w fun e w' => e = .returned (.float .f64 (fbits b)) ∧ w' = w := by
  obtain ⟨_, _, h58, h38, han⟩ := base_float b hb2 hb36
  generalize fbits b = f at *
  go_enter Tryd.func108, Tryd.ntmps108
  go_wp2
  go_ret
  exact ⟨rfl, rfl⟩

theorem to_base_ok (u b : Nat) (hu : u < 18446744073709551616) (hb2 : 2 ≤ b) (hb36 : b ≤ 36) (w : World) (hg : Tabs w) :
    Calls Tryd.prog 90 #[.iface 22 (.int .u64 u), .int .i64 b] w fun e w' => e = .returned (.string ⟨(digs b 64 u).toArray⟩) ∧ Below w.heap.size w w' := by
  obtain ⟨hto, hfrom, _, _, _⟩ := base_float b hb2 hb36
  have ta1 : ∀ W, (Instr.typeAssert (.iface 22 (.int .u64 u)) 20 2 true).run Tryd.prog W = .ok (.tuple #[.int .i64 0, .bool false]) W := fun W => by kernel_rfl
  have ta2 : ∀ W, (Instr.typeAssert (.iface 22 (.int .u64 u)) 20 22 true).run Tryd.prog W = .ok (.tuple #[.int .u64 u, .bool true]) W := fun W => by kernel_rfl
  have k2 : (2 : Int) ≤ (b : Int) := by omega
  have k36 : (b : Int) ≤ 36 := by omega
  go_enter Tryd.func90, Tryd.ntmps90
  go_wp2_with fail
  refine (abs_ok b hb2 hb36 _).mono ?_
  rintro e w' ⟨rfl, rfl⟩
  go_wp2_with fail
  refine (format_ok u b hu hb2 hb36 _ hg).mono ?_
  rintro e w' ⟨rfl, hb⟩
  go_wp2_with fail
  go_ret
  exact ⟨rfl, hb⟩
end Go.Proofs.YthicaehcoingeaaDoor.PTV
