import Derived.Test.Qxb6603097aSl
namespace Go.Proofs.Qxb6603097a.filterWalks
open Go.ChangeShapes Go.WideShapes Go.ChangeAt Go.RowKit

theorem lt_of_cell {w : World} {a : Addr} {v : Value} (h : w.cell? a = some v) : a.block < w.heap.size := by
  by_cases hlt : a.block < w.heap.size
  · exact hlt
  · have e : w.heap[a.block]? = none := by simp; omega
    simp [World.cell?, e] at h

theorem strAt_below {w w' : World} {ao : Option Addr} {n : Nat} {V : Nat → ByteArray} (h : StrAt w ao n V) (hb : Below w.heap.size w w') : StrAt w' ao n V := by
  obtain ⟨g, h1, h2⟩ := h
  refine ⟨g, h1, fun j hj => ?_⟩
  have := h2 j hj
  rw [hb.cell (lt_of_cell this)]
  exact this

/-! ### A slice of strings that CAME IN, and one that was made at or above a block -/
def StrIn (w : World) (ao : Option Addr) (n : Nat) : Prop :=
  (ao = none → n = 0) ∧ ∃ b o, (0 < n → ao = some ⟨b, o, none⟩) ∧ ∀ j, j < n → ∃ s : ByteArray, w.cell? ⟨b, o + j, none⟩ = some (.string s) ∧ s.size ≤ maxLen
def StrUp (w : World) (lo : Nat) (ao : Option Addr) (n : Nat) : Prop :=
  ∃ (g : Nat) (V : Nat → ByteArray), lo ≤ g ∧ (0 < n → ao = some ⟨g, 0, none⟩) ∧ ∀ j, j < n → w.cell? ⟨g, j, none⟩ = some (.string (V j))

theorem strUp_at {w : World} {lo : Nat} {ao : Option Addr} {n : Nat} (h : StrUp w lo ao n) : ∃ V, StrAt w ao n V := by
  obtain ⟨g, V, _, h1, h2⟩ := h
  exact ⟨V, g, h1, h2⟩
theorem strUp_below {w w' : World} {lo : Nat} {ao : Option Addr} {n : Nat} (h : StrUp w lo ao n) (hb : Below w.heap.size w w') : StrUp w' lo ao n := by
  obtain ⟨g, V, hg, h1, h2⟩ := h
  refine ⟨g, V, hg, h1, fun j hj => ?_⟩
  have := h2 j hj
  rw [hb.cell (lt_of_cell this)]
  exact this
theorem strUp_set {w : World} {lo : Nat} {ao : Option Addr} {n : Nat} (h : StrUp w lo ao n) {a : Addr} (ha : a.block < lo) (u : Value) : StrUp (w.setCell a u) lo ao n := by
  obtain ⟨g, V, hg, h1, h2⟩ := h
  refine ⟨g, V, hg, h1, fun j hj => ?_⟩
  rw [World.cell?_of_block (w := w) (Below.heap_setCell _ _ _ _ (by show g ≠ a.block; omega))]
  exact h2 j hj
theorem strUp_mono {w : World} {lo lo' : Nat} {ao : Option Addr} {n : Nat} (h : StrUp w lo ao n) (hl : lo' ≤ lo) : StrUp w lo' ao n := by
  obtain ⟨g, V, hg, h1⟩ := h
  exact ⟨g, V, by omega, h1⟩

/-! ### The row of strings that cloneStrings fills -/
def StrCells (w : World) (B n : Nat) : Prop := ∃ cs : Array Value, w.heap[B]? = some (.cells cs 9 (0, 0)) ∧ cs.size = n ∧ ∀ j, j < n → ∃ s, cs[j]? = some (.string s)

theorem strCells_made (w : World) (n : Nat) : StrCells (w.alloc (.cells (madeCells #[.string ⟨#[]⟩] n) 9)) w.heap.size n :=
  ⟨_, heap_alloc_new w _, size_madeCells _ _, fun j hj => ⟨⟨#[]⟩, by
    have e : (madeCells #[.string ⟨#[]⟩] n)[j]? = (madeCells #[.string ⟨#[]⟩] n).toList[j]? := by simp
    rw [e, toList_madeCells_one]
    simp [hj]⟩⟩
theorem strCells_cell {w : World} {B n k : Nat} (h : StrCells w B n) (hk : k < n) : ∃ s, w.cell? ⟨B, k, none⟩ = some (.string s) := by
  obtain ⟨cs, h1, _, h3⟩ := h
  obtain ⟨s, hs⟩ := h3 k hk
  exact ⟨s, by rw [cell_of_row w B k cs 9 (0, 0) h1]; exact hs⟩
theorem strCells_free {w : World} {B n : Nat} (h : StrCells w B n) (k : Nat) : w.frozen? ⟨B, k, none⟩ = false := by
  obtain ⟨cs, h1, _⟩ := h
  exact frozen_of_row w B k cs 9 h1
theorem strCells_set {w : World} {B n : Nat} (h : StrCells w B n) (k : Nat) (s : ByteArray) : StrCells (w.setCell ⟨B, k, none⟩ (.string s)) B n := by
  obtain ⟨cs, h1, h2, h3⟩ := h
  refine ⟨_, heap_setCell_same w B k cs 9 _ h1, by simpa using h2, fun j hj => ?_⟩
  by_cases e : k = j
  · subst e
    exact ⟨s, by simp [h2, hj]⟩
  · obtain ⟨t, ht⟩ := h3 j hj
    exact ⟨t, by rw [Array.getElem?_setIfInBounds_ne e]; exact ht⟩
theorem strCells_up {w : World} {B n : Nat} (h : StrCells w B n) : StrUp w B (some ⟨B, 0, none⟩) n := by
  have hc : ∀ j, ∃ s, j < n → w.cell? ⟨B, j, none⟩ = some (.string s) := fun j => by
    by_cases hj : j < n
    · obtain ⟨s, hs⟩ := strCells_cell h hj
      exact ⟨s, fun _ => hs⟩
    · exact ⟨⟨#[]⟩, fun h => absurd h hj⟩
  exact ⟨B, fun j => Classical.choose (hc j), Nat.le_refl _, fun _ => rfl, fun j hj => Classical.choose_spec (hc j) hj⟩

theorem info9 : (Try.prog.info? 9).map (fun i => (i.zero, i.size, i.bytes)) = some (some (.string ⟨#[]⟩), 1, 16) := by kernel_rfl
theorem make_strs (n : Nat) (hn : n ≤ 1048576) (w : World) : (Instr.makeSlice 43 (.int .i64 (n : Int)) (.int .i64 (n : Int))).run Try.prog w = .ok (.slice (some ⟨w.heap.size, 0, none⟩) n n) (w.alloc (.cells (madeCells #[.string ⟨#[]⟩] n) 9)) := by
  obtain ⟨i0, hi, hz0, hz1, hz2⟩ := info_parts info9
  have h := run_make (P := Try.prog) w 43 9 i0 (.string ⟨#[]⟩) Try.underlying43 hi hz0 .i64 .i64 (n : Int) (n : Int) (by omega) (by omega) (by rw [hz2]; omega) (by omega)
  rw [hz1, Int.toNat_natCast, Nat.mul_one] at h
  exact h
theorem nil43 (w : World) (a : Option Addr) (n c : Nat) : (binOp .eql 43 (.slice a n c) (.slice none 0 0)).run Try.prog w = .ok (.bool a.isNone) w := Lib.run_eql_slice_nil w 43 9 a n c 0 0 Try.underlying43

def StrRes (w : World) (n : Nat) (e : Ending) (w' : World) : Prop := ∃ a' c', e = .returned (.slice a' n c') ∧ StrUp w' w.heap.size a' n ∧ Below w.heap.size w w'

set_option maxHeartbeats 400000 in
theorem cloneStrings_any (w : World) (ao : Option Addr) (n cap : Nat) (hn : n ≤ 1048576) (h : StrIn w ao n) :
    Calls Try.prog 30 #[.slice ao n cap] w fun e w' => StrRes w n e w' := by
  have hnil := nil43
  have hmk := make_strs n hn
  obtain ⟨h0, b, o, h1, h2⟩ := h
  cases ao with
  | none =>
    obtain rfl := h0 rfl
    go_enter Try.func30, Try.ntmps30
    go_wp2
    go_ret
    exact ⟨_, _, rfl, ⟨w.heap.size, fun _ => ⟨#[]⟩, Nat.le_refl _, fun h => by omega, fun j hj => by omega⟩, Below.refl _ _⟩
  | some x =>
    clear h0
    go_enter Try.func30, Try.ntmps30
    go_wp2
    go_loopw [4] (fun i wr => ∃ k : Nat, k ≤ n ∧ i = .int .i64 k ∧ StrCells wr w.heap.size n ∧ Below w.heap.size w wr) (fun i _ => n - (intOf i).toNat)
    case atStart => exact ⟨0, by omega, rfl, strCells_made w n, (Below.refl _ _).alloc (Nat.le_refl _) _⟩
    case round =>
      obtain ⟨k, hk, rfl, hc, hB⟩ := hrel
      by_cases hlt : k < n
      · obtain ⟨s, hs, _⟩ := h2 k hlt
        have c0 : wr.cell? ⟨b, o + k, none⟩ = some (.string s) := by rw [hB.cell (lt_of_cell hs)]; exact hs
        obtain ⟨t, d0⟩ := strCells_cell hc hlt
        have f0 := strCells_free hc k
        have HX : Hid (some x = some (⟨b, o, none⟩ : Addr)) := h1 (by omega)
        clear h2 hs h1
        have e : x = ⟨b, o, none⟩ := by have := HX.out; simpa using this
        have HC : Hid (StrCells wr w.heap.size n) := hc
        clear hc HX
        go_wp2
        go_roundw
        case rel => exact ⟨k + 1, by omega, by go_num, strCells_set HC.out k s, hB.setCell (Nat.le_refl _) _⟩
        case measure => simp [intOf]; omega
      · have HC := strCells_up hc
        clear h2 hc
        go_wp2
        go_ret
        exact ⟨_, _, rfl, HC, hB⟩
end Go.Proofs.Qxb6603097a.filterWalks
