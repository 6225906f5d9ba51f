/-
  Contract of impl.TXQuote at a text of printable characters: a quotation mark, each character (a quotation mark and a backslash behind a backslash), a quotation mark. Condition: at most 1000 bytes, each from 32 to 126.
-/
import Derived.Test.YthicaehcoingeaaDoorPTQ0
import Derived.Test.YthicaehcoingeaaDoorShelfQ
import Derived.MapKept
import Derived.LoopTactic
namespace Go.Proofs.YthicaehcoingeaaDoor.PTQ
open Go.RowKit Go.Proofs.YthicaehcoingeaaDoorW.PrintWords Go.Proofs.YthicaehcoingeaaDoorW.PrintLast Go.Proofs.YthicaehcoingeaaDoorW.PrintMore
set_option linter.unusedVariables false
set_option linter.unusedSimpArgs false
set_option maxRecDepth 100000

theorem blk2 (w : World) (o p : Obj) : ((w.alloc o).alloc p).heap[w.heap.size]? = some o := blk_alloc (heap_alloc_new w o) p
theorem und116 : Tryd.prog.underlying 116 = some (.map 5 9) := by kernel_rfl
theorem und5 : Tryd.prog.underlying 5 = some (.int .u8) := by kernel_rfl
theorem zero9 (w : World) : (zeroValue 9).run Tryd.prog w = .ok (.string ⟨#[]⟩) w := by kernel_rfl
theorem check5 (b : Bool) (c : Int) (w : World) : (Instr.checkKey b 10000 5 (.int .u8 c)).run Tryd.prog w = .ok () w := by
  cases b <;> kernel_rfl
theorem set_last (h : Array Obj) (x y : Obj) : (h.push x).setIfInBounds h.size y = h.push y := by
  apply Array.ext_getElem?
  intro i
  simp only [Array.getElem?_setIfInBounds, Array.getElem?_push, Array.size_push]
  by_cases e : i = h.size
  · subst e; simp
  · have e2 : h.size ≠ i := fun q => e q.symm
    simp [e, e2]
theorem run_insert_new (W : World) (es : Array MapEntry) (clock : Nat) (c : Int) (v : Value) (hn : Instr.findNow (.int .u8) (.int .u8 c) es.toList 0 = some none) :
    (Instr.mapUpdate 116 (.map (some W.heap.size)) (.int .u8 c) v).run Tryd.prog (W.alloc (.map es clock)) = .ok () (W.alloc (.map (es.push { key := .int .u8 c, val := v, born := clock }) (clock + 1))) := by
  have hb : (W.alloc (.map es clock)).heap[W.heap.size]? = some (.map es clock) := heap_alloc_new _ _
  simp [Instr.mapUpdate, run_underlying und116, MapKept.run_getObj_map hb, check5, Instr.findKey, run_underlying und5, hn, Result.andThen]
  rw [MapKept.run_setObj_map _ hb]
  show Result.ok () { (W.alloc _) with heap := (W.heap.push _).setIfInBounds W.heap.size _ } = _
  rw [set_last]
  rfl
theorem run_look_none (W : World) (M : Nat) (es : Array MapEntry) (clock : Nat) (c : Int) (hb : W.heap[M]? = some (.map es clock)) (hn : Instr.findNow (.int .u8) (.int .u8 c) es.toList 0 = some none) :
    (Instr.lookup 116 (.map (some M)) (.int .u8 c) true).run Tryd.prog W = .ok (.tuple #[.string ⟨#[]⟩, .bool false]) W := by
  simp [Instr.lookup, run_underlying und116, MapKept.run_getObj_map hb, check5, Instr.findKey, run_underlying und5, hn, zero9, Result.andThen]
theorem run_look_some (W : World) (M : Nat) (es : Array MapEntry) (clock : Nat) (c : Int) (i : Nat) (v : Value) (hb : W.heap[M]? = some (.map es clock)) (hn : Instr.findNow (.int .u8) (.int .u8 c) es.toList 0 = some (some (i, v))) :
    (Instr.lookup 116 (.map (some M)) (.int .u8 c) true).run Tryd.prog W = .ok (.tuple #[v, .bool true]) W := by
  simp [Instr.lookup, run_underlying und116, MapKept.run_getObj_map hb, check5, Instr.findKey, run_underlying und5, hn, Result.andThen]
@[go_sem] theorem ins0 (W : World) : (Instr.mapUpdate 116 (.map (some W.heap.size)) (.int .u8 92) (.string ⟨#[92, 92]⟩)).run Tryd.prog (W.alloc (.map #[] 0)) = .ok () (W.alloc (.map #[{ key := .int .u8 92, val := .string ⟨#[92, 92]⟩, born := 0 }] 1)) := run_insert_new W _ _ _ _ rfl
@[go_sem] theorem ins1 (W : World) : (Instr.mapUpdate 116 (.map (some W.heap.size)) (.int .u8 34) (.string ⟨#[92, 34]⟩)).run Tryd.prog (W.alloc (.map #[{ key := .int .u8 92, val := .string ⟨#[92, 92]⟩, born := 0 }] 1)) = .ok () (W.alloc (.map #[{ key := .int .u8 92, val := .string ⟨#[92, 92]⟩, born := 0 }, { key := .int .u8 34, val := .string ⟨#[92, 34]⟩, born := 1 }] 2)) := run_insert_new W _ _ _ _ rfl
@[go_sem] theorem ins2 (W : World) : (Instr.mapUpdate 116 (.map (some W.heap.size)) (.int .u8 8) (.string ⟨#[92, 98]⟩)).run Tryd.prog (W.alloc (.map #[{ key := .int .u8 92, val := .string ⟨#[92, 92]⟩, born := 0 }, { key := .int .u8 34, val := .string ⟨#[92, 34]⟩, born := 1 }] 2)) = .ok () (W.alloc (.map #[{ key := .int .u8 92, val := .string ⟨#[92, 92]⟩, born := 0 }, { key := .int .u8 34, val := .string ⟨#[92, 34]⟩, born := 1 }, { key := .int .u8 8, val := .string ⟨#[92, 98]⟩, born := 2 }] 3)) := run_insert_new W _ _ _ _ rfl
@[go_sem] theorem ins3 (W : World) : (Instr.mapUpdate 116 (.map (some W.heap.size)) (.int .u8 12) (.string ⟨#[92, 102]⟩)).run Tryd.prog (W.alloc (.map #[{ key := .int .u8 92, val := .string ⟨#[92, 92]⟩, born := 0 }, { key := .int .u8 34, val := .string ⟨#[92, 34]⟩, born := 1 }, { key := .int .u8 8, val := .string ⟨#[92, 98]⟩, born := 2 }] 3)) = .ok () (W.alloc (.map #[{ key := .int .u8 92, val := .string ⟨#[92, 92]⟩, born := 0 }, { key := .int .u8 34, val := .string ⟨#[92, 34]⟩, born := 1 }, { key := .int .u8 8, val := .string ⟨#[92, 98]⟩, born := 2 }, { key := .int .u8 12, val := .string ⟨#[92, 102]⟩, born := 3 }] 4)) := run_insert_new W _ _ _ _ rfl
@[go_sem] theorem ins4 (W : World) : (Instr.mapUpdate 116 (.map (some W.heap.size)) (.int .u8 10) (.string ⟨#[92, 110]⟩)).run Tryd.prog (W.alloc (.map #[{ key := .int .u8 92, val := .string ⟨#[92, 92]⟩, born := 0 }, { key := .int .u8 34, val := .string ⟨#[92, 34]⟩, born := 1 }, { key := .int .u8 8, val := .string ⟨#[92, 98]⟩, born := 2 }, { key := .int .u8 12, val := .string ⟨#[92, 102]⟩, born := 3 }] 4)) = .ok () (W.alloc (.map #[{ key := .int .u8 92, val := .string ⟨#[92, 92]⟩, born := 0 }, { key := .int .u8 34, val := .string ⟨#[92, 34]⟩, born := 1 }, { key := .int .u8 8, val := .string ⟨#[92, 98]⟩, born := 2 }, { key := .int .u8 12, val := .string ⟨#[92, 102]⟩, born := 3 }, { key := .int .u8 10, val := .string ⟨#[92, 110]⟩, born := 4 }] 5)) := run_insert_new W _ _ _ _ rfl
@[go_sem] theorem ins5 (W : World) : (Instr.mapUpdate 116 (.map (some W.heap.size)) (.int .u8 13) (.string ⟨#[92, 114]⟩)).run Tryd.prog (W.alloc (.map #[{ key := .int .u8 92, val := .string ⟨#[92, 92]⟩, born := 0 }, { key := .int .u8 34, val := .string ⟨#[92, 34]⟩, born := 1 }, { key := .int .u8 8, val := .string ⟨#[92, 98]⟩, born := 2 }, { key := .int .u8 12, val := .string ⟨#[92, 102]⟩, born := 3 }, { key := .int .u8 10, val := .string ⟨#[92, 110]⟩, born := 4 }] 5)) = .ok () (W.alloc (.map #[{ key := .int .u8 92, val := .string ⟨#[92, 92]⟩, born := 0 }, { key := .int .u8 34, val := .string ⟨#[92, 34]⟩, born := 1 }, { key := .int .u8 8, val := .string ⟨#[92, 98]⟩, born := 2 }, { key := .int .u8 12, val := .string ⟨#[92, 102]⟩, born := 3 }, { key := .int .u8 10, val := .string ⟨#[92, 110]⟩, born := 4 }, { key := .int .u8 13, val := .string ⟨#[92, 114]⟩, born := 5 }] 6)) := run_insert_new W _ _ _ _ rfl
@[go_sem] theorem ins6 (W : World) : (Instr.mapUpdate 116 (.map (some W.heap.size)) (.int .u8 9) (.string ⟨#[92, 116]⟩)).run Tryd.prog (W.alloc (.map #[{ key := .int .u8 92, val := .string ⟨#[92, 92]⟩, born := 0 }, { key := .int .u8 34, val := .string ⟨#[92, 34]⟩, born := 1 }, { key := .int .u8 8, val := .string ⟨#[92, 98]⟩, born := 2 }, { key := .int .u8 12, val := .string ⟨#[92, 102]⟩, born := 3 }, { key := .int .u8 10, val := .string ⟨#[92, 110]⟩, born := 4 }, { key := .int .u8 13, val := .string ⟨#[92, 114]⟩, born := 5 }] 6)) = .ok () (W.alloc (.map #[{ key := .int .u8 92, val := .string ⟨#[92, 92]⟩, born := 0 }, { key := .int .u8 34, val := .string ⟨#[92, 34]⟩, born := 1 }, { key := .int .u8 8, val := .string ⟨#[92, 98]⟩, born := 2 }, { key := .int .u8 12, val := .string ⟨#[92, 102]⟩, born := 3 }, { key := .int .u8 10, val := .string ⟨#[92, 110]⟩, born := 4 }, { key := .int .u8 13, val := .string ⟨#[92, 114]⟩, born := 5 }, { key := .int .u8 9, val := .string ⟨#[92, 116]⟩, born := 6 }] 7)) := run_insert_new W _ _ _ _ rfl
def escMap : Obj := .map #[{ key := .int .u8 92, val := .string ⟨#[92, 92]⟩, born := 0 }, { key := .int .u8 34, val := .string ⟨#[92, 34]⟩, born := 1 }, { key := .int .u8 8, val := .string ⟨#[92, 98]⟩, born := 2 }, { key := .int .u8 12, val := .string ⟨#[92, 102]⟩, born := 3 }, { key := .int .u8 10, val := .string ⟨#[92, 110]⟩, born := 4 }, { key := .int .u8 13, val := .string ⟨#[92, 114]⟩, born := 5 }, { key := .int .u8 9, val := .string ⟨#[92, 116]⟩, born := 6 }] 7
theorem look_plain (W : World) (M : Nat) (c : Int) (hb : W.heap[M]? = some escMap) (h0 : 32 ≤ c) (h1 : c ≠ 34) (h2 : c ≠ 92) : (Instr.lookup 116 (.map (some M)) (.int .u8 c) true).run Tryd.prog W = .ok (.tuple #[.string ⟨#[]⟩, .bool false]) W := by
  refine run_look_none W M _ _ c hb ?_
  have e : ∀ k : Int, c ≠ k → (c == k) = false := fun k h => by simpa using h
  simp [Instr.findNow, Instr.sameNow, e 92 h2, e 34 h1, e 8 (by omega), e 12 (by omega), e 10 (by omega), e 13 (by omega), e 9 (by omega)]
theorem look34 (W : World) (M : Nat) (hb : W.heap[M]? = some escMap) : (Instr.lookup 116 (.map (some M)) (.int .u8 34) true).run Tryd.prog W = .ok (.tuple #[.string ⟨#[92, 34]⟩, .bool true]) W := run_look_some W M _ _ 34 1 _ hb rfl
theorem look92 (W : World) (M : Nat) (hb : W.heap[M]? = some escMap) : (Instr.lookup 116 (.map (some M)) (.int .u8 92) true).run Tryd.prog W = .ok (.tuple #[.string ⟨#[92, 92]⟩, .bool true]) W := run_look_some W M _ _ 92 0 _ hb rfl

def esc (b : UInt8) : List UInt8 := if b = 92 then [92, 92] else if b = 34 then [92, 34] else [b]
def escs (l : List UInt8) : List UInt8 := l.flatMap esc
def quoteL (l : List UInt8) : List UInt8 := [34] ++ escs l ++ [34]
theorem escs_len (l : List UInt8) : (escs l).length ≤ 2 * l.length := by
  induction l with
  | nil => simp [escs]
  | cons b r ih =>
    have h : (esc b).length ≤ 2 := by unfold esc; split; simp; split <;> simp
    simp only [escs, List.flatMap_cons, List.length_append, List.length_cons] at ih ⊢
    omega
theorem escs_app (a b : List UInt8) : escs (a ++ b) = escs a ++ escs b := by simp [escs]
theorem escs_plain (l : List UInt8) (h : ∀ b ∈ l, b ≠ 34 ∧ b ≠ 92) : escs l = l := by
  induction l with
  | nil => rfl
  | cons b r ih =>
    have hb := h b (by simp)
    rw [show escs (b :: r) = esc b ++ escs r from rfl, ih (fun x hx => h x (by simp [hx]))]
    simp [esc, hb.1, hb.2]
def Plain (s : ByteArray) : Prop := ∀ i (h : i < s.size), 32 ≤ (s[i]'h).toNat ∧ (s[i]'h).toNat ≤ 126

/-- What stands around the buffer in a round. -/
structure At (s : ByteArray) (w : World) (a k : Nat) (wr : World) : Prop where
  buf : Lib.IsBuffer 120 5 (w.heap.size + 1) (w.heap.size + 1) (Lib.byteCells ([34] ++ escs (s.data.toList.take a))) wr
  map : wr.heap[w.heap.size]? = some escMap
  below : Below w.heap.size w wr
  size : w.heap.size + 1 ≤ wr.heap.size
  plain : escs ((s.data.toList.take k).drop a) = (s.data.toList.take k).drop a
theorem take_get (s : ByteArray) (k : Nat) (h : k < s.size) : s.data.toList.take (k + 1) = s.data.toList.take k ++ [s[k]] := by
  rw [List.take_succ_eq_append_getElem (by simpa using h)]; rfl
theorem At.next {s : ByteArray} {w wr : World} {a k : Nat} (h : At s w a k wr) (hk : k < s.size) (hak : a ≤ k) (h1 : s[k] ≠ 34) (h2 : s[k] ≠ 92) : At s w a (k + 1) wr := by
  refine ⟨h.buf, h.map, h.below, h.size, ?_⟩
  have e : (s.data.toList.take (k + 1)).drop a = (s.data.toList.take k).drop a ++ [s[k]] := by
    rw [take_get s k hk, List.drop_append_of_le_length (by simp; have : s.data.toList.length = s.size := rfl; omega)]
  rw [e, escs_app, h.plain]
  simp [escs, esc, h1, h2]
theorem At.len {s : ByteArray} {w wr : World} {a k : Nat} (hs : s.size ≤ 1000) : (Lib.byteCells ([34] ++ escs (s.data.toList.take a))).length ≤ 2001 := by
  have h := escs_len (s.data.toList.take a)
  have h2 : (s.data.toList.take a).length ≤ s.size := by simp; exact Nat.min_le_right ..
  rw [Lib.byteCells_length]
  simp only [List.length_append, List.length_cons, List.length_nil]
  omega
theorem extract_list (s : ByteArray) (a k : Nat) : (s.extract a k).data.toList = (s.data.toList.take k).drop a := by
  rw [List.drop_take]; simp
/-- Behind the text that was kept back: the buffer holds all up to k. -/
theorem At.flush {s : ByteArray} {w wr w1 : World} {a k : Nat} (h : At s w a k wr) (hak : a ≤ k) (hb : Lib.IsBuffer 120 5 (w.heap.size + 1) (w.heap.size + 1) (Lib.byteCells ([34] ++ escs (s.data.toList.take a)) ++ Lib.byteCells (s.extract a k).data.toList) w1) (hbel : Below (w.heap.size + 1) wr w1) : At s w k k w1 := by
  refine ⟨?_, (hbel.block _ (by omega)).trans h.map, h.below.trans (hbel.mono (by omega)), Nat.le_trans h.size hbel.size, by simp [escs]⟩
  have e : escs (s.data.toList.take k) = escs (s.data.toList.take a) ++ (s.extract a k).data.toList := by
    rw [extract_list, ← h.plain, ← escs_app]
    congr 1
    have e2 := List.take_append_drop a (s.data.toList.take k)
    rw [List.take_take, Nat.min_eq_left hak] at e2
    exact e2.symm
  rw [e]
  rw [← Lib.byteCells_append] at hb
  simpa using hb
theorem At.put {s : ByteArray} {w wr w1 : World} {k : Nat} (h : At s w k k wr) (hk : k < s.size) (x : ByteArray) (hx : x.data.toList = esc s[k]) (hb : Lib.IsBuffer 120 5 (w.heap.size + 1) (w.heap.size + 1) (Lib.byteCells ([34] ++ escs (s.data.toList.take k)) ++ Lib.byteCells x.data.toList) w1) (hbel : Below (w.heap.size + 1) wr w1) : At s w (k + 1) (k + 1) w1 := by
  refine ⟨?_, (hbel.block _ (by omega)).trans h.map, h.below.trans (hbel.mono (by omega)), Nat.le_trans h.size hbel.size, by simp [escs]⟩
  have e : escs (s.data.toList.take (k + 1)) = escs (s.data.toList.take k) ++ esc s[k] := by
    rw [take_get s k hk, escs_app]; simp [escs]
  rw [e, ← hx]
  rw [← Lib.byteCells_append] at hb
  simpa using hb

theorem quote_end (s : ByteArray) : Lib.byteCells ([34] ++ escs (s.data.toList.take s.size)) ++ [Value.int .u8 34] = Lib.byteCells (quoteL s.data.toList) := by
  have e : s.data.toList.take s.size = s.data.toList := List.take_of_length_le (by show s.size ≤ s.size; exact Nat.le_refl _)
  rw [e]
  simp [Lib.byteCells, quoteL]
set_option maxHeartbeats 4000000 in
theorem quote_ok (s : ByteArray) (w : World) (hs : s.size ≤ 1000) (hp : Plain s) :
    Calls Tryd.prog 63 #[.string s] w fun e w' => e = .returned (.string ⟨(quoteL s.data.toList).toArray⟩) ∧ Below w.heap.size w w' := by
  have hmm := @run_makeMap Tryd.prog
  have HP := Aside0.mk hp
  clear hp
  go_enter Tryd.func63, Tryd.ntmps63
  go_wp2_with (go_at_call 77; refine (Tryd.Buffer_WriteByte (w.heap.size + 1) (w.heap.size + 1) [] 34 _ ?_ ?_ ?_ ?_).mono ?_)
  · have h0 := Lib.fresh_isBuffer 120 5 (w.alloc escMap)
    rw [World.size_alloc] at h0
    exact h0
  · simp
  · simp
  · simp
  rintro e W1 ⟨rfl, h1, b1⟩
  have HA := Aside0.mk (show At s w 0 0 W1 from ⟨by simpa [escs, Lib.byteCells] using h1, (b1.block _ (by simp)).trans (blk2 w escMap _), ((below_alloc (below_alloc (Below.refl _ _) _) _)).trans (b1.mono (by omega)), by have := b1.size; simp at this; omega, by simp [escs]⟩)
  clear h1 b1 hmm
  go_wp2_with fail
  go_loopw [5, 6] (fun st i wr => ∃ (a k : Nat), a ≤ k ∧ k ≤ s.size ∧ i = .int .i64 k ∧ st = .int .i64 a ∧ Aside0 (At s w a k wr)) (fun _ i _ => s.size - (intOf i).toNat)
  case atStart => exact ⟨0, 0, Nat.le_refl _, Nat.zero_le _, rfl, rfl, HA⟩
  case round =>
    clear HA
    obtain ⟨a, k, hak, hk, rfl, rfl, HA⟩ := hrel
    by_cases hlt : k < s.size
    · have hpk := HP.out k hlt
      by_cases h34 : s[k] = 34
      · skip
        have hq : (s[k].toNat : Int) = 34 := by rw [h34]; rfl
        have hlook := look34 wr w.heap.size HA.out.map
        have HE := Aside0.mk (show (⟨#[92, 34]⟩ : ByteArray).data.toList = esc s[k] by rw [h34]; rfl)
        clear h34 hpk
        by_cases hak2 : a < k
        · go_wp2_with fail
          refine (Tryd.Buffer_WriteString (w.heap.size + 1) (w.heap.size + 1) _ (s.extract a k) _ HA.out.buf HA.out.size (Lib.byteCells_one _) ?_).mono ?_
          · have := At.len (w := w) (wr := wr) (a := a) (k := k) hs; have hx := congrArg List.length (extract_list s a k); simp only [List.length_drop, List.length_take] at hx; have hz : (s.extract a k).data.toList.length = (s.extract a k).size := rfl; have hz2 : s.data.toList.length = s.size := rfl; omega
          rintro e W2 ⟨rfl, h2, b2⟩
          have HF := Aside0.mk (HA.out.flush hak h2 b2)
          clear h2 b2 HA hlook
          go_wp2_with fail
          refine (Tryd.Buffer_WriteString (w.heap.size + 1) (w.heap.size + 1) _ ⟨#[92, 34]⟩ _ HF.out.buf HF.out.size (Lib.byteCells_one _) ?_).mono ?_
          · have := At.len (w := w) (wr := wr) (a := k) (k := k) hs; show _ + 2 ≤ _; omega
          rintro e W3 ⟨rfl, h3, b3⟩
          have HG := Aside0.mk (HF.out.put hlt _ HE.out h3 b3)
          clear h3 b3 HF
          go_wp2_with fail
          go_roundw
          case rel => exact ⟨k + 1, k + 1, by omega, by omega, by go_num, by go_num, HG⟩
          case measure => simp [intOf]; omega
        · obtain rfl : a = k := by omega
          go_wp2_with fail
          refine (Tryd.Buffer_WriteString (w.heap.size + 1) (w.heap.size + 1) _ ⟨#[92, 34]⟩ _ HA.out.buf HA.out.size (Lib.byteCells_one _) ?_).mono ?_
          · have := At.len (w := w) (wr := wr) (a := a) (k := a) hs; show _ + 2 ≤ _; omega
          rintro e W3 ⟨rfl, h3, b3⟩
          have HG := Aside0.mk (HA.out.put hlt _ HE.out h3 b3)
          clear h3 b3 HA hlook
          go_wp2_with fail
          go_roundw
          case rel => exact ⟨a + 1, a + 1, by omega, by omega, by go_num, by go_num, HG⟩
          case measure => simp [intOf]; omega
      · by_cases h92 : s[k] = 92
        · skip
          have hq : (s[k].toNat : Int) = 92 := by rw [h92]; rfl
          have hlook := look92 wr w.heap.size HA.out.map
          have HE := Aside0.mk (show (⟨#[92, 92]⟩ : ByteArray).data.toList = esc s[k] by rw [h92]; rfl)
          clear h92 hpk
          by_cases hak2 : a < k
          · go_wp2_with fail
            refine (Tryd.Buffer_WriteString (w.heap.size + 1) (w.heap.size + 1) _ (s.extract a k) _ HA.out.buf HA.out.size (Lib.byteCells_one _) ?_).mono ?_
            · have := At.len (w := w) (wr := wr) (a := a) (k := k) hs; have hx := congrArg List.length (extract_list s a k); simp only [List.length_drop, List.length_take] at hx; have hz : (s.extract a k).data.toList.length = (s.extract a k).size := rfl; have hz2 : s.data.toList.length = s.size := rfl; omega
            rintro e W2 ⟨rfl, h2, b2⟩
            have HF := Aside0.mk (HA.out.flush hak h2 b2)
            clear h2 b2 HA hlook
            go_wp2_with fail
            refine (Tryd.Buffer_WriteString (w.heap.size + 1) (w.heap.size + 1) _ ⟨#[92, 92]⟩ _ HF.out.buf HF.out.size (Lib.byteCells_one _) ?_).mono ?_
            · have := At.len (w := w) (wr := wr) (a := k) (k := k) hs; show _ + 2 ≤ _; omega
            rintro e W3 ⟨rfl, h3, b3⟩
            have HG := Aside0.mk (HF.out.put hlt _ HE.out h3 b3)
            clear h3 b3 HF
            go_wp2_with fail
            go_roundw
            case rel => exact ⟨k + 1, k + 1, by omega, by omega, by go_num, by go_num, HG⟩
            case measure => simp [intOf]; omega
          · obtain rfl : a = k := by omega
            go_wp2_with fail
            refine (Tryd.Buffer_WriteString (w.heap.size + 1) (w.heap.size + 1) _ ⟨#[92, 92]⟩ _ HA.out.buf HA.out.size (Lib.byteCells_one _) ?_).mono ?_
            · have := At.len (w := w) (wr := wr) (a := a) (k := a) hs; show _ + 2 ≤ _; omega
            rintro e W3 ⟨rfl, h3, b3⟩
            have HG := Aside0.mk (HA.out.put hlt _ HE.out h3 b3)
            clear h3 b3 HA hlook
            go_wp2_with fail
            go_roundw
            case rel => exact ⟨a + 1, a + 1, by omega, by omega, by go_num, by go_num, HG⟩
            case measure => simp [intOf]; omega
        · have hlook := look_plain wr w.heap.size (s[k].toNat : Int) HA.out.map (by omega) (by intro q; apply h34; apply UInt8.toNat_inj.1; exact Int.ofNat_inj.1 q) (by intro q; apply h92; apply UInt8.toNat_inj.1; exact Int.ofNat_inj.1 q)
          have HN := Aside0.mk (HA.out.next hlt hak h34 h92)
          have hc128 : (s[k].toNat : Int) < 128 := by omega
          clear h34 h92 hpk
          go_wp2_with fail
          go_roundw
          case rel => exact ⟨a, k + 1, by omega, by omega, by go_num, rfl, HN⟩
          case measure => simp [intOf]; omega
    · obtain rfl : k = s.size := by omega
      by_cases ha : a < s.size
      · go_wp2_with fail
        refine (Tryd.Buffer_WriteString (w.heap.size + 1) (w.heap.size + 1) _ (s.extract a s.size) _ HA.out.buf HA.out.size (Lib.byteCells_one _) ?_).mono ?_
        · have := At.len (w := w) (wr := wr) (a := a) (k := s.size) hs; have hx := congrArg List.length (extract_list s a s.size); simp only [List.length_drop, List.length_take] at hx; have hz : (s.extract a s.size).data.toList.length = (s.extract a s.size).size := rfl; have hz2 : s.data.toList.length = s.size := rfl; omega
        rintro e W2 ⟨rfl, h2, b2⟩
        have HF := Aside0.mk (HA.out.flush hak h2 b2)
        clear h2 b2 HA
        go_wp2_with fail
        refine (Tryd.Buffer_WriteByte (w.heap.size + 1) (w.heap.size + 1) _ 34 _ HF.out.buf HF.out.size (Lib.byteCells_one _) ?_).mono ?_
        · have := At.len (w := w) (wr := wr) (a := s.size) (k := s.size) hs; omega
        rintro e W3 ⟨rfl, h3, b3⟩
        have e3 : Lib.byteCells ([34] ++ escs (s.data.toList.take s.size)) ++ [Value.int .u8 34] = Lib.byteCells (quoteL s.data.toList) := by
          exact quote_end s
        rw [e3] at h3
        have HB := Aside0.mk (HF.out.below.trans (b3.mono (by omega)))
        clear e3 b3 HF
        go_wp2_with fail
        refine (Tryd.Buffer_String (w.heap.size + 1) (w.heap.size + 1) _ _ h3).mono ?_
        rintro e W4 ⟨rfl, n, rfl⟩
        go_wp2
        go_ret
        exact ⟨rfl, pw_below_drewN HB.out n⟩
      · obtain rfl : a = s.size := by omega
        have HF := HA
        clear HA
        go_wp2_with fail
        refine (Tryd.Buffer_WriteByte (w.heap.size + 1) (w.heap.size + 1) _ 34 _ HF.out.buf HF.out.size (Lib.byteCells_one _) ?_).mono ?_
        · have := At.len (w := w) (wr := wr) (a := s.size) (k := s.size) hs; omega
        rintro e W3 ⟨rfl, h3, b3⟩
        have e3 : Lib.byteCells ([34] ++ escs (s.data.toList.take s.size)) ++ [Value.int .u8 34] = Lib.byteCells (quoteL s.data.toList) := by
          exact quote_end s
        rw [e3] at h3
        have HB := Aside0.mk (HF.out.below.trans (b3.mono (by omega)))
        clear e3 b3 HF
        go_wp2_with fail
        refine (Tryd.Buffer_String (w.heap.size + 1) (w.heap.size + 1) _ _ h3).mono ?_
        rintro e W4 ⟨rfl, n, rfl⟩
        go_wp2
        go_ret
        exact ⟨rfl, pw_below_drewN HB.out n⟩
end Go.Proofs.YthicaehcoingeaaDoor.PTQ
