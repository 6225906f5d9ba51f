/-
  What impl.TXQuote and impl.TXUnquote answer, in the form in which the printed text asks for it. Condition: texts of at most 1000 printable characters, and those texts in quotation marks.
-/
import Derived.Test.YthicaehcoingeaaDoorQTa
import Derived.Test.YthicaehcoingeaaDoorQTb
import Derived.Defers
import Derived.Recover
namespace Go.Proofs.YthicaehcoingeaaDoor.PTQ
open Go.RowKit Go.Proofs.YthicaehcoingeaaDoorW.PrintWords Go.Proofs.YthicaehcoingeaaDoorW.PrintLast Go.Proofs.YthicaehcoingeaaDoorW.PrintMore
set_option linter.unusedVariables false
set_option linter.unusedSimpArgs false
set_option maxRecDepth 100000

def printable (l : List UInt8) : Bool := l.all fun b => decide (32 ≤ b.toNat) && decide (b.toNat ≤ 126)
theorem plain_of (s : ByteArray) (h : printable s.data.toList = true) : Plain s := by
  intro i hi
  have hm : s[i] ∈ s.data.toList := by
    have e : s.data.toList[i]'(by exact hi) = s[i] := rfl
    rw [← e]; exact List.getElem_mem _
  have h1 := List.all_eq_true.1 h _ hm
  simpa using h1

def impl_TXQuote.f (a0 : ByteArray) : Option (ByteArray) := if a0.size ≤ 1000 ∧ printable a0.data.toList = true then some ⟨(quoteL a0.data.toList).toArray⟩ else none
theorem impl_TXQuote.calls (a0 : ByteArray) (r : ByteArray) (w : World) (h : impl_TXQuote.f a0 = some r) :
    Calls Tryd.prog 20 #[.string a0] w fun e w' => e = .returned (.string r) ∧ Below w.heap.size w w' := by
  unfold impl_TXQuote.f at h
  split at h
  · rename_i hc
    obtain rfl := Option.some.inj h
    go_enter Tryd.func20, Tryd.ntmps20
    go_wp2_with (go_at_call 63; refine (quote_ok _ _ hc.1 (plain_of _ hc.2)).mono ?_; rintro e w' ⟨rfl, hb⟩)
    go_ret
    exact ⟨rfl, hb⟩
  · cases h

theorem caught_idle (p : Addr) (w : World) :
    CallsD Tryd.prog 41 #[.pointer (some p)] .returning w fun e u' w' => e = .returned (.tuple #[]) ∧ u' = .returning ∧ w' = w := by
  refine callsD_of_wpS Tryd.func41 rfl fun c₀ cs hu => ?_
  apply wpS_seq
  apply wpS_region
  simp [wpOpsS, go_sem, recoverD, hu, Tryd.ntmps41, Exit.thenS]
  refine wpS_cond (t := false) (by simp [Act.eval, Array.replicate]) ?_
  simp only [Bool.false_eq_true, if_false]
  refine wpS_of_wp (wp_skip ?_)
  cases c₀
  simp_all [bodyPostS, results, Tryd.results41]
theorem new_cell {w w' : World} {v : Value} {t : TypeId} (hb : Below (w.alloc (.cells #[v] t)).heap.size (w.alloc (.cells #[v] t)) w') :
    w'.cell? ⟨w.heap.size, 0, none⟩ = some v ∧ w'.frozen? ⟨w.heap.size, 0, none⟩ = false ∧ Below w.heap.size w w' :=
  ⟨(hb.cell (p := ⟨w.heap.size, 0, none⟩) (by simp)).trans (by simp [go_sem]), (hb.frozen (p := ⟨w.heap.size, 0, none⟩) (by simp)).trans (by simp [go_sem]), below_then (below_alloc (Below.refl _ _) _) (by simp) hb⟩

theorem unquote_call (ps : List (Bool × UInt8)) (l : List UInt8) (s : ByteArray) (w : World) (hs : s.data.toList = encs ps) (hl : ps.length ≤ 1000) (hf : ∀ p ∈ ps, Fine p) (hv : ps.map (·.2) = [34] ++ l ++ [34]) :
    Calls Tryd.prog 21 #[.string s] w fun e w' => e = .returned (.tuple #[.string ⟨l.toArray⟩, .bool true]) ∧ Below w.heap.size w w' := by
  have HS := Aside0.mk hs
  have HF := Aside0.mk hf
  have HV := Aside0.mk hv
  clear hs hf hv
  go_enter_defers Tryd.func21, Tryd.ntmps21
  go_wp2_with (go_at_call 64; refine (unquote_ok ps l s _ HS.out hl HF.out HV.out).mono ?_; rintro e w' ⟨rfl, hb⟩)
  obtain ⟨hc, hz, hB⟩ := new_cell hb
  clear hb
  go_region
  all_goals go_wp2
  refine leaves_cons (f := 41) (args := #[.pointer (some ⟨w.heap.size, 0, none⟩)]) (by simp) (by simp [go_sem]) ?_
  refine (caught_idle ⟨w.heap.size, 0, none⟩ _).mono ?_
  rintro e u' w'' ⟨rfl, rfl, rfl⟩
  refine ⟨.tuple #[.string ⟨l.toArray⟩, .bool true], ?_, rfl, ?_⟩
  · simp [results, Tryd.results21, go_sem, hc]
  · exact below_drew (hB.setCell (Nat.le_refl _) _)

/-- Without what stands ahead of a quotation mark or a backslash. -/
def unesc : List UInt8 → List UInt8
  | [] => []
  | [x] => [x]
  | x :: y :: r => if x = 92 then y :: unesc r else x :: unesc (y :: r)
def inner (l : List UInt8) : List UInt8 := unesc ((l.drop 1).dropLast)
def impl_TXUnquote.f (a0 : ByteArray) : Option (ByteArray × Bool) := if a0.data.toList = quoteL (inner a0.data.toList) ∧ (inner a0.data.toList).length ≤ 900 then some (⟨(inner a0.data.toList).toArray⟩, true) else none
def piecesOf (l : List UInt8) : List (Bool × UInt8) := [(false, 34)] ++ l.map (fun b => (b == 34 || b == 92, b)) ++ [(false, 34)]
theorem encs_pieces (l : List UInt8) : encs (piecesOf l) = quoteL l := by
  have h : ∀ l : List UInt8, encs (l.map (fun b => (b == 34 || b == 92, b))) = escs l := by
    intro l
    induction l with
    | nil => rfl
    | cons b r ih =>
      rw [List.map_cons, show encs ((b == 34 || b == 92, b) :: r.map (fun b => (b == 34 || b == 92, b))) = enc (b == 34 || b == 92, b) ++ encs (r.map (fun b => (b == 34 || b == 92, b))) from rfl, ih]
      show _ = esc b ++ escs r
      congr 1
      unfold enc esc
      by_cases h1 : b = 92
      · subst h1; rfl
      · by_cases h2 : b = 34
        · subst h2; rfl
        · simp [h1, h2]
  unfold piecesOf
  rw [encs_app, encs_app, h]
  rfl
theorem impl_TXUnquote.calls (a0 : ByteArray) (r1 : ByteArray) (r2 : Bool) (w : World) (h : impl_TXUnquote.f a0 = some (r1, r2)) :
    Calls Tryd.prog 21 #[.string a0] w fun e w' => e = .returned (.tuple #[.string r1, .bool r2]) ∧ Below w.heap.size w w' := by
  unfold impl_TXUnquote.f at h
  split at h
  · rename_i hc
    simp only [Option.some.injEq, Prod.mk.injEq] at h
    obtain ⟨rfl, rfl⟩ := h
    generalize inner a0.data.toList = l at hc ⊢
    refine unquote_call (piecesOf l) l a0 w (hc.1.trans (encs_pieces l).symm) (by simp [piecesOf]; omega) ?_ (by
      have e : ((fun x : Bool × UInt8 => x.2) ∘ fun b => (b == 34 || b == 92, b)) = id := rfl
      simp [piecesOf, e])
    intro p hp
    simp only [piecesOf, List.mem_append, List.mem_map, List.mem_singleton] at hp
    rcases hp with (rfl | ⟨b, -, rfl⟩) | rfl
    · simp [Fine]
    · unfold Fine
      by_cases h1 : b = 34
      · simp [h1]
      · by_cases h2 : b = 92
        · simp [h2]
        · simp [h1, h2]
    · simp [Fine]
  · cases h
end Go.Proofs.YthicaehcoingeaaDoor.PTQ
