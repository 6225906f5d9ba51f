/-
  Contract of function.Soundex at a word of capitals and small letters: what sxText (below) says of its capitals. Condition: from 1 to 1000 letters; unicode.properties as laid.
-/
import Derived.Test.YthicaehcoingeaaDoorShelfT
import Derived.Test.YthicaehcoingeaaDoorPTS0
import Derived.LoopTactic
import Derived.BigCall
import Derived.Laws.IdiomStrings
namespace Go.Proofs.YthicaehcoingeaaDoor.PTS
open Go.RowKit Go.Proofs.YthicaehcoingeaaDoorW.PrintWords Go.Proofs.YthicaehcoingeaaDoorW.PrintLast Go.Proofs.YthicaehcoingeaaDoorW.PrintMore
set_option linter.unusedVariables false
set_option linter.unusedSimpArgs false
set_option maxRecDepth 100000

def Glob (w : World) : Prop := Lib.TabIs Tryd.prog w "unicode.properties" .u8 Lib.propertiesTab
theorem Glob.later {w w' : World} (h : Glob w) (hb : Below w.heap.size w w') : Glob w' := by
  have hg : Tryd.prog.globalNamed "unicode.properties" = some 3 := by kernel_rfl
  unfold Glob Lib.TabIs World.var? at h ⊢
  rw [hg] at h ⊢
  simp only [Option.bind_some] at h ⊢
  have hlt : 3 < w.heap.size := by
    rcases Nat.lt_or_ge 3 w.heap.size with h' | h'
    · exact h'
    · rw [Array.getElem?_eq_none h'] at h; cases h
  rw [hb.block 3 hlt]
  exact h

def sxCode (r : Int) : Int :=
  if r = 66 ∨ r = 70 ∨ r = 80 ∨ r = 86 then 49 else
  if r = 67 ∨ r = 71 ∨ r = 74 ∨ r = 75 ∨ r = 81 ∨ r = 83 ∨ r = 88 ∨ r = 90 then 50 else
  if r = 68 ∨ r = 84 then 51 else if r = 76 then 52 else if r = 77 ∨ r = 78 then 53 else if r = 82 then 54 else 48
theorem sxCode_range (r : Int) : 48 ≤ sxCode r ∧ sxCode r ≤ 54 := by unfold sxCode; repeat' split <;> try omega
def sxStep (st : Int × List UInt8) (b : UInt8) : Int × List UInt8 :=
  if st.1 = 0 then (sxCode b.toNat, st.2 ++ [b]) else if sxCode b.toNat = 48 ∨ sxCode b.toNat = st.1 then st else (sxCode b.toNat, st.2 ++ [UInt8.ofNat (sxCode b.toNat).toNat])
def sxFold (l : List UInt8) : Int × List UInt8 := l.foldl sxStep (0, [])
def pad4 (l : List UInt8) : List UInt8 := l ++ List.replicate (4 - l.length) 48
def Caps (l : List UInt8) : Prop := ∀ b ∈ l, 65 ≤ b.toNat ∧ b.toNat ≤ 90

theorem code_ok (r : Int) (h0 : 65 ≤ r) (h1 : r ≤ 90) (w : World) : Calls Tryd.prog 85 #[.int .i32 r] w fun e w' => e = .returned (.int .i32 (sxCode r)) ∧ w' = w := by
  obtain rfl | rfl | rfl | rfl | rfl | rfl | rfl | rfl | rfl | rfl | rfl | rfl | rfl | rfl | rfl | rfl | rfl | rfl | rfl | rfl | rfl | rfl | rfl | rfl | rfl | rfl : r = 65 ∨ r = 66 ∨ r = 67 ∨ r = 68 ∨ r = 69 ∨ r = 70 ∨ r = 71 ∨ r = 72 ∨ r = 73 ∨ r = 74 ∨ r = 75 ∨ r = 76 ∨ r = 77 ∨ r = 78 ∨ r = 79 ∨ r = 80 ∨ r = 81 ∨ r = 82 ∨ r = 83 ∨ r = 84 ∨ r = 85 ∨ r = 86 ∨ r = 87 ∨ r = 88 ∨ r = 89 ∨ r = 90 := by omega
  all_goals
    go_enter Tryd.func85, Tryd.ntmps85
    go_wp2
    go_ret
    exact ⟨rfl, rfl⟩

theorem letter_ok (c : Int) (h0 : 65 ≤ c) (h1 : c ≤ 90) (w : World) (hg : Glob w) : Calls Tryd.prog 84 #[.int .i32 c] w fun e w' => e = .returned (.bool true) ∧ w' = w := by
  obtain ⟨n, rfl⟩ := Int.eq_ofNat_of_zero_le (show 0 ≤ c by omega)
  refine (Tryd.unicode_IsLetter n w (by omega) hg).mono ?_
  rintro e w' ⟨rfl, rfl⟩
  have hall : ∀ k : Fin 26, Lib.isLetterL ((65 + k.val : Nat) : Int) = true := by decide
  have hk := hall ⟨n - 65, by omega⟩
  have e1 : 65 + (n - 65) = n := by omega
  simp only [e1] at hk
  exact ⟨by rw [hk], rfl⟩

theorem fresh_far {w w2 : World} (hb : Below (w.alloc (.cells #[.pointer none, .slice none 0 0] 131)).heap.size (w.alloc (.cells #[.pointer none, .slice none 0 0] 131)) w2) : Lib.IsBuilderF 131 5 w.heap.size w.heap.size (Lib.byteCells []) w2 := by
  have hk : w2.heap[w.heap.size]? = some (.cells #[.pointer none, .slice none 0 0] 131) := by
    rw [hb.block _ (by simp)]
    exact heap_alloc_new w _
  exact Lib.IsBuilderF.of (Or.inl ⟨Nat.le_refl _, .slice none 0 0, hk, World.ownsRow_nil _ _ _ _, by simp [Value.ownBlock]⟩)

structure Sx (w : World) (K : Nat) (s : ByteArray) (pos : Nat) (last : Int) (acc : List UInt8) (wr : World) : Prop where
  buf : Lib.IsBuilderF 131 5 w.heap.size w.heap.size (Lib.byteCells acc) wr
  it : wr.heap[K]? = some (.stringIter s pos)
  below : Below w.heap.size w wr
  st : sxFold (s.data.toList.take pos) = (last, acc)
  le : pos ≤ s.size
  len : acc.length ≤ pos

theorem sxFold_take (u : List UInt8) (pos : Nat) (h : pos < u.length) : sxFold (u.take (pos + 1)) = sxStep (sxFold (u.take pos)) u[pos] := by
  unfold sxFold
  rw [List.take_succ_eq_append_getElem h, List.foldl_append]
  rfl
theorem sxFold_last (l : List UInt8) : (l = [] → (sxFold l).1 = 0) ∧ (l ≠ [] → 48 ≤ (sxFold l).1 ∧ (sxFold l).1 ≤ 54 ∧ (sxFold l).2 ≠ []) := by
  refine ⟨fun h => by subst h; rfl, fun h => ?_⟩
  suffices H : ∀ (n : Nat) (h0 : n < l.length), 48 ≤ (sxFold (l.take (n + 1))).1 ∧ (sxFold (l.take (n + 1))).1 ≤ 54 ∧ (sxFold (l.take (n + 1))).2 ≠ [] by
    have hl : 0 < l.length := List.length_pos_iff.2 h
    have := H (l.length - 1) (by omega)
    rw [show l.length - 1 + 1 = l.length by omega, List.take_length] at this
    exact this
  intro n
  induction n with
  | zero =>
    intro h0
    rw [sxFold_take l 0 h0]
    have := sxCode_range (l[0].toNat : Int)
    simp [sxFold, sxStep]
    omega
  | succ n ih =>
    intro h0
    have hi := ih (by omega)
    rw [sxFold_take l (n + 1) h0]
    have := sxCode_range (l[n + 1].toNat : Int)
    unfold sxStep
    rw [if_neg (by omega)]
    split
    · exact hi
    · exact ⟨by simpa using this.1, by simpa using this.2, by simp⟩
theorem sxFold_ascii (l : List UInt8) (h : Caps l) : ∀ b ∈ (sxFold l).2, b.toNat < 128 := by
  suffices H : ∀ (st : Int × List UInt8), (∀ b ∈ st.2, b.toNat < 128) → ∀ b ∈ (l.foldl sxStep st).2, b.toNat < 128 from H _ (by simp)
  induction l with
  | nil => intro st hst; exact hst
  | cons x xs ih =>
    intro st hst
    refine ih (fun b hb => h b (List.mem_cons_of_mem _ hb)) _ ?_
    have hx := h x (List.mem_cons_self ..)
    have hr := sxCode_range (x.toNat : Int)
    unfold sxStep
    split
    · intro b hb
      rcases List.mem_append.1 hb with hb | hb
      · exact hst b hb
      · obtain rfl := List.mem_singleton.1 hb; omega
    · split
      · exact hst
      · intro b hb
        rcases List.mem_append.1 hb with hb | hb
        · exact hst b hb
        · obtain rfl := List.mem_singleton.1 hb
          simp only [UInt8.toNat_ofNat']
          omega

theorem one_rune (r : Int) (h0 : 0 ≤ r) (h1 : r ≤ 127) (acc : List UInt8) : Lib.byteCells acc ++ Lib.runeCells r = Lib.byteCells (acc ++ [UInt8.ofNat r.toNat]) := by
  have e : Lib.runeCells r = [.int .u8 r] := by simp [Lib.runeCells, Lib.encodeRuneZ_one h0 h1]
  have e2 : ((UInt8.ofNat r.toNat).toNat : Int) = r := by
    simp only [UInt8.toNat_ofNat']
    omega
  rw [e, Lib.byteCells_append]
  show _ = _ ++ [Value.int .u8 ((UInt8.ofNat r.toNat).toNat : Int)]
  rw [e2]
theorem one_rune_len (r : Int) (h0 : 0 ≤ r) (h1 : r ≤ 127) : (Lib.runeCells r).length = 1 := by
  have e : Lib.runeCells r = [.int .u8 r] := by simp [Lib.runeCells, Lib.encodeRuneZ_one h0 h1]
  rw [e]; rfl

theorem runes_ascii (s : ByteArray) (hs : ∀ i (h : i < s.size), (s[i]'h).toNat < 128) : ∀ (bound i : Nat) (acc : Array Value), i + bound = s.size → (Conv.runesFrom s bound i acc).size = acc.size + bound
  | 0, i, acc, _ => by simp [Conv.runesFrom]
  | bound + 1, i, acc, h => by
    have hi : i < s.size := by omega
    unfold Conv.runesFrom
    rw [if_pos hi, decode_ascii s i hi (hs i hi)]
    simp only
    rw [runes_ascii s hs bound (i + 1) _ (by omega)]
    simp
    omega
theorem conv_runes (s : ByteArray) (hs : ∀ i (h : i < s.size), (s[i]'h).toNat < 128) (hn : s.size ≤ 1000) (W : World) :
    ∃ (cap : Nat) (cs : Array Value), (convert 9 27 (.string s)).run Tryd.prog W = .ok (.slice (some ⟨W.heap.size, 0, none⟩) s.size cap) (W.drew.alloc (.cells cs 21)) := by
  have e := runes_ascii s hs s.size 0 #[] (by omega)
  simp only [List.size_toArray, List.length_nil, Nat.zero_add] at e
  have := run_runes_of_string (P := Tryd.prog) W 9 27 21 s Tryd.underlying9 Tryd.underlying27 Tryd.underlying21 (by rw [e]; omega)
  rw [e] at this
  exact ⟨_, _, this⟩
