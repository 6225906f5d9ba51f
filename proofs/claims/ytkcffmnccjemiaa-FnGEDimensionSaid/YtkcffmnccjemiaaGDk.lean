/-
  Kinds of rows: points, lines, polygons, geometries. No condition.
-/
import Derived.Test.YtkcffmnccjemiaaProg
import Derived.Test.YtkcffmnccjemiaaWMore
import Derived.Test.YtkcffmnccjemiaaWLast
import Derived.WalkLawsBesides
import Derived.Deep.RegionHeld3
import Derived.Laws.Cover2
import Derived.BigQuiet
import Derived.Deep.QuietTactic
import Derived.RegionTactic
import Derived.ChangeAlike
import Derived.LoopTactic
import Derived.BigCall
import Derived.Lib.Builder
import Derived.KernelRfl
import Derived.RowKit3
import Derived.Deep.AppendLies
namespace Go.Proofs.Ytkcffmnccjemiaa.GD
open Go.RowKit Go.Proofs.YtkcffmnccjemiaaW.PrintWords Go.Proofs.YtkcffmnccjemiaaW.PrintLast Go.Proofs.YtkcffmnccjemiaaW.PrintMore
set_option linter.unusedVariables false
set_option maxRecDepth 100000
set_option maxHeartbeats 400000

@[go_sem] theorem run_store_float (P : Program) (w : World) (a : Addr) (m : Mode) (k : FloatKind) (n : Nat) : (store a (.float k n) m).run P w = stored P w a (.float k n) m := run_store P w a _ m rfl
abbrev pt (a b : Nat) : Value := .agg #[.float .f64 a, .float .f64 b]
abbrev tp (s : Int) (a b : Nat) : Value := .agg #[.int .u32 s, .float .f64 a, .float .f64 b]
def kF : Kd Nat := Kd.scalar (fun n : Nat => Value.float .f64 n) (fun _ => rfl)
def kQ : Kd (Nat × Nat) := Kd.pair kF kF
def kS : Kd (Option Addr × Nat × Nat) := Kd.scalar (fun s : Option Addr × Nat × Nat => Value.slice s.1 s.2.1 s.2.2) (fun _ => rfl)
def kPts : Kd (List (Nat × Nat)) := Kd.slice 65 kQ
def kLns : Kd (List (List (Nat × Nat))) := Kd.slice 23 kPts
def kPls : Kd (List (List (List (Nat × Nat)))) := Kd.slice 24 kLns
/-- A geometry: kind, number, points, lines, polygons; of its parts where they lie. -/
abbrev GeoD : Type := Int × Int × List (Nat × Nat) × List (List (Nat × Nat)) × List (List (List (Nat × Nat))) × Option Addr × Nat × Nat
def kGeo : Kd GeoD := Kd.pair (Kd.int .i64) (Kd.pair (Kd.int .u32) (Kd.pair kPts (Kd.pair kLns (Kd.pair kPls kS))))
end Go.Proofs.Ytkcffmnccjemiaa.GD
