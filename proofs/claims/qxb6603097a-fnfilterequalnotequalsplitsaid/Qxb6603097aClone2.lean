import Derived.Test.Qxb6603097aClone
namespace Go.Proofs.Qxb6603097a.filterWalks
open Go.ChangeShapes Go.WideShapes Go.ChangeAt Go.RowKit

theorem undrew {B : Nat} {a b : World} (h : Below B a.drew b) : Below B a b := ⟨h.os, h.tape, h.output, h.size, h.block⟩

/-! ### cloneBytes -/
def BytIn (w : World) (ao : Option Addr) (n : Nat) : Prop :=
  (ao = none → n = 0) ∧ ∃ b o, (0 < n → ao = some ⟨b, o, none⟩) ∧ ∀ j, j < n → ∃ x : Int, w.cell? ⟨b, o + j, none⟩ = some (.int .u8 x)
def Row (w : World) (B : Nat) (t : TypeId) (m : Nat) : Prop := ∃ cs : Array Value, w.heap[B]? = some (.cells cs t (0, 0)) ∧ cs.size = m
theorem row_cell {w : World} {B : Nat} {t : TypeId} {m k : Nat} (h : Row w B t m) (hk : k < m) : ∃ v, w.cell? ⟨B, k, none⟩ = some v := by
  obtain ⟨cs, h1, h2⟩ := h
  exact ⟨cs[k]'(by omega), by rw [cell_of_row w B k cs t (0, 0) h1]; simp [h2, hk]⟩
theorem row_free {w : World} {B : Nat} {t : TypeId} {m : Nat} (h : Row w B t m) (k : Nat) : w.frozen? ⟨B, k, none⟩ = false := by
  obtain ⟨cs, h1, _⟩ := h
  exact frozen_of_row w B k cs t h1
theorem row_set {w : World} {B : Nat} {t : TypeId} {m : Nat} (h : Row w B t m) (k : Nat) (u : Value) : Row (w.setCell ⟨B, k, none⟩ u) B t m := by
  obtain ⟨cs, h1, h2⟩ := h
  exact ⟨_, heap_setCell_same w B k cs t u h1, by simpa using h2⟩

theorem info5 : (Try.prog.info? 5).map (fun i => (i.zero, i.size, i.bytes)) = some (some (.int .u8 0), 1, 1) := by kernel_rfl
theorem make_byts (n : Nat) (hn : n ≤ 1048576) (w : World) : (Instr.makeSlice 22 (.int .i64 (n : Int)) (.int .i64 (n : Int))).run Try.prog w = .ok (.slice (some ⟨w.heap.size, 0, none⟩) n n) (w.alloc (.cells (madeCells #[.int .u8 0] n) 5)) := by
  obtain ⟨i0, hi, hz0, hz1, hz2⟩ := info_parts info5
  have h := run_make (P := Try.prog) w 22 5 i0 (.int .u8 0) Try.underlying22 hi hz0 .i64 .i64 (n : Int) (n : Int) (by omega) (by omega) (by rw [hz2]; omega) (by omega)
  rw [hz1, Int.toNat_natCast, Nat.mul_one] at h
  exact h
theorem nil22 (w : World) (a : Option Addr) (n c : Nat) : (binOp .eql 22 (.slice a n c) (.slice none 0 0)).run Try.prog w = .ok (.bool a.isNone) w := Lib.run_eql_slice_nil w 22 5 a n c 0 0 Try.underlying22

def BytRes (w : World) (e : Ending) (w' : World) : Prop := ∃ a' n' c', e = .returned (.slice a' n' c') ∧ Below w.heap.size w w'

set_option maxHeartbeats 400000 in
theorem cloneBytes_any (w : World) (ao : Option Addr) (n cap : Nat) (hn : n ≤ 1048576) (h : BytIn w ao n) :
    Calls Try.prog 9 #[.slice ao n cap] w fun e w' => BytRes w e w' := by
  have hnil := nil22
  have hmk := make_byts n hn
  obtain ⟨h0, b, o, h1, h2⟩ := h
  cases ao with
  | none =>
    go_enter Try.func9, Try.ntmps9
    go_wp2
    go_ret
    exact ⟨_, _, _, rfl, Below.refl _ _⟩
  | some x =>
    clear h0
    go_enter Try.func9, Try.ntmps9
    go_wp2
    go_loopw [4] (fun i wr => ∃ k : Nat, k ≤ n ∧ i = .int .i64 k ∧ Row wr w.heap.size 5 n ∧ Below w.heap.size w wr) (fun i _ => n - (intOf i).toNat)
    case atStart => exact ⟨0, by omega, rfl, ⟨_, heap_alloc_new w _, size_madeCells _ _⟩, (Below.refl _ _).alloc (Nat.le_refl _) _⟩
    case round =>
      obtain ⟨k, hk, rfl, hc, hB⟩ := hrel
      by_cases hlt : k < n
      · obtain ⟨s, hs⟩ := h2 k hlt
        have c0 : wr.cell? ⟨b, o + k, none⟩ = some (.int .u8 s) := by rw [hB.cell (lt_of_cell hs)]; exact hs
        obtain ⟨t, d0⟩ := row_cell hc hlt
        have f0 := row_free hc k
        have e : x = ⟨b, o, none⟩ := by have := h1 (by omega); simpa using this
        have HC : Hid (Row wr w.heap.size 5 n) := hc
        clear hc h2 hs h1
        go_wp2
        go_roundw
        case rel => exact ⟨k + 1, by omega, by go_num, row_set HC.out k _, hB.setCell (Nat.le_refl _) _⟩
        case measure => simp [intOf]; omega
      · clear h2 hc
        go_wp2
        go_ret
        exact ⟨_, _, _, rfl, hB⟩

/-! ### cloneHeaders -/
/-- A slice of headers that CAME IN. -/
def HdrIn (w : World) (ao : Option Addr) (n : Nat) : Prop :=
  (ao = none → n = 0) ∧ ∃ b o, (0 < n → ao = some ⟨b, o, none⟩) ∧ ∀ i, i < n → ∃ (key : ByteArray) (sa : Option Addr) (sl sc : Nat),
    w.cell? ⟨b, o + i * 2, none⟩ = some (.string key) ∧ w.cell? ⟨b, o + i * 2 + 1, none⟩ = some (.slice sa sl sc) ∧ key.size ≤ maxLen ∧ sl ≤ maxLen ∧ StrIn w sa sl
/-- No list of values in it is too long. -/
def HdrSmall (w : World) (ao : Option Addr) (n : Nat) : Prop :=
  n ≤ 1048576 ∧ ∀ b o i sa sl sc, ao = some ⟨b, o, none⟩ → i < n → w.cell? ⟨b, o + i * 2 + 1, none⟩ = some (.slice sa sl sc) → sl ≤ 1048576
/-- A slice of headers that the call made. -/
def HdrUp (w : World) (lo : Nat) (ao : Option Addr) (n : Nat) : Prop :=
  (ao = none → n = 0) ∧ ∃ g, lo ≤ g ∧ (0 < n → ao = some ⟨g, 0, none⟩) ∧ ∀ i, i < n → ∃ (key : ByteArray) (sa : Option Addr) (sl sc : Nat),
    w.cell? ⟨g, i * 2, none⟩ = some (.string key) ∧ w.cell? ⟨g, i * 2 + 1, none⟩ = some (.slice sa sl sc) ∧ key.size ≤ maxLen ∧ sl ≤ 1048576 ∧ StrUp w 0 sa sl

theorem strIn_below {w w' : World} {ao : Option Addr} {n : Nat} (h : StrIn w ao n) (hb : Below w.heap.size w w') : StrIn w' ao n := by
  obtain ⟨h0, b, o, h1, h2⟩ := h
  refine ⟨h0, b, o, h1, fun j hj => ?_⟩
  obtain ⟨s, hs, hz⟩ := h2 j hj
  exact ⟨s, by rw [hb.cell (lt_of_cell hs)]; exact hs, hz⟩

def HdrCells (w : World) (B n k : Nat) : Prop := ∃ cs : Array Value, w.heap[B]? = some (.cells cs 67 (0, 0)) ∧ cs.size = n * 2 ∧ ∀ i, i < k → ∃ (key : ByteArray) (sa : Option Addr) (sl sc : Nat),
    cs[i * 2]? = some (.string key) ∧ cs[i * 2 + 1]? = some (.slice sa sl sc) ∧ key.size ≤ maxLen ∧ sl ≤ 1048576 ∧ StrUp w (B + 1) sa sl

theorem hdrCells_row {w : World} {B n k : Nat} (h : HdrCells w B n k) : Row w B 67 (n * 2) := by
  obtain ⟨cs, h1, h2, _⟩ := h
  exact ⟨cs, h1, h2⟩
theorem hdrCells_up {w : World} {B n : Nat} (h : HdrCells w B n n) : HdrUp w B (some ⟨B, 0, none⟩) n := by
  obtain ⟨cs, h1, h2, h3⟩ := h
  refine ⟨fun h => by simp at h, B, Nat.le_refl _, fun _ => rfl, fun i hi => ?_⟩
  obtain ⟨key, sa, sl, sc, a, b, c, d, e⟩ := h3 i hi
  exact ⟨key, sa, sl, sc, by rw [cell_of_row w B _ cs 67 (0, 0) h1]; exact a, by rw [cell_of_row w B _ cs 67 (0, 0) h1]; exact b, c, d, strUp_mono e (Nat.zero_le _)⟩
theorem hdrCells_step {w w2 : World} {B n k : Nat} {key : ByteArray} {sa : Option Addr} {sl sc : Nat} (h : HdrCells w B n k) (hk : k < n) (hB : B < w.heap.size) (hb : Below w.heap.size w w2)
    (hs : StrUp w2 w.heap.size sa sl) (hkey : key.size ≤ maxLen) (hsl : sl ≤ 1048576) :
    HdrCells ((w2.setCell ⟨B, k * 2, none⟩ (.string key)).setCell ⟨B, k * 2 + 1, none⟩ (.slice sa sl sc)) B n (k + 1) := by
  obtain ⟨cs, h1, h2, h3⟩ := h
  have g1 : w2.heap[B]? = some (.cells cs 67 (0, 0)) := by rw [hb.block B hB]; exact h1
  refine ⟨_, heap_setCell_same _ B (k * 2 + 1) _ 67 _ (heap_setCell_same w2 B (k * 2) cs 67 _ g1), by simpa using h2, fun i hi => ?_⟩
  by_cases e : i = k
  · subst e
    refine ⟨key, sa, sl, sc, ?_, ?_, hkey, hsl, strUp_mono (strUp_set (strUp_set hs (by show B < _; omega) _) (by show B < _; omega) _) (by omega)⟩
    · rw [Array.getElem?_setIfInBounds_ne (by omega)]
      exact Array.getElem?_setIfInBounds_self_of_lt (by omega)
    · exact Array.getElem?_setIfInBounds_self_of_lt (by rw [Array.size_setIfInBounds]; omega)
  · obtain ⟨key', sa', sl', sc', a, b, c, d, f⟩ := h3 i (by omega)
    refine ⟨key', sa', sl', sc', ?_, ?_, c, d, strUp_set (strUp_set (strUp_below f hb) (by show B < B + 1; omega) _) (by show B < B + 1; omega) _⟩
    · rw [Array.getElem?_setIfInBounds_ne (by omega), Array.getElem?_setIfInBounds_ne (by omega)]; exact a
    · rw [Array.getElem?_setIfInBounds_ne (by omega), Array.getElem?_setIfInBounds_ne (by omega)]; exact b

theorem info67 : (Try.prog.info? 67).map (fun i => (i.zero, i.size, i.bytes)) = some (some (.agg #[.string ⟨#[]⟩, .slice none 0 0]), 2, 40) := by kernel_rfl
theorem make_hdrs (n : Nat) (hn : n ≤ 1048576) (w : World) : (Instr.makeSlice 23 (.int .i64 (n : Int)) (.int .i64 (n : Int))).run Try.prog w = .ok (.slice (some ⟨w.heap.size, 0, none⟩) n n) (w.alloc (.cells (madeCells #[.string ⟨#[]⟩, .slice none 0 0] (n * 2)) 67)) := by
  obtain ⟨i0, hi, hz0, hz1, hz2⟩ := info_parts info67
  have h := run_make (P := Try.prog) w 23 67 i0 (.agg #[.string ⟨#[]⟩, .slice none 0 0]) Try.underlying23 hi hz0 .i64 .i64 (n : Int) (n : Int) (by omega) (by omega) (by rw [hz2]; omega) (by omega)
  rw [hz1, Int.toNat_natCast] at h
  exact h
theorem nil23 (w : World) (a : Option Addr) (n c : Nat) : (binOp .eql 23 (.slice a n c) (.slice none 0 0)).run Try.prog w = .ok (.bool a.isNone) w := Lib.run_eql_slice_nil w 23 67 a n c 0 0 Try.underlying23

def HdrRes (w : World) (n : Nat) (e : Ending) (w' : World) : Prop := ∃ a' c', e = .returned (.slice a' n c') ∧ HdrUp w' w.heap.size a' n ∧ Below w.heap.size w w'

set_option maxHeartbeats 1000000 in
theorem cloneHeaders_any (w : World) (ao : Option Addr) (n cap : Nat) (h : HdrIn w ao n) (hsm : HdrSmall w ao n) :
    Calls Try.prog 10 #[.slice ao n cap] w fun e w' => HdrRes w n e w' := by
  have hnil := nil23
  have hmk := make_hdrs n hsm.1
  have hn := hsm.1
  obtain ⟨h0, b, o, h1, h2⟩ := h
  cases ao with
  | none =>
    obtain rfl := h0 rfl
    go_enter Try.func10, Try.ntmps10
    go_wp2
    go_ret
    exact ⟨_, _, rfl, ⟨fun _ => rfl, w.heap.size, Nat.le_refl _, fun h => by omega, fun j hj => by omega⟩, Below.refl _ _⟩
  | some x =>
    clear h0
    by_cases hz : n = 0
    · subst hz
      clear hmk
      have hmk0 : ∀ w : World, (Instr.makeSlice 23 (.int .i64 0) (.int .i64 0)).run Try.prog w = .ok (.slice (some ⟨w.heap.size, 0, none⟩) 0 0) (w.alloc (.cells (madeCells #[.string ⟨#[]⟩, .slice none 0 0] (0 * 2)) 67)) := fun w => make_hdrs 0 (by omega) w
      go_enter Try.func10, Try.ntmps10
      go_wp2
      refine wp_loop_rounds 1 ?_
      rw [rounds_succ]
      go_wp2
      go_ret
      exact ⟨_, _, rfl, ⟨fun h => by simp at h, w.heap.size, Nat.le_refl _, fun h => by omega, fun j hj => by omega⟩, (Below.refl _ _).alloc (Nat.le_refl _) _⟩
    have e : x = ⟨b, o, none⟩ := by have := h1 (by omega); simpa using this
    subst e
    clear h1 hz
    go_enter Try.func10, Try.ntmps10
    go_wp2
    go_loopw [4] (fun i wr => ∃ k : Nat, k ≤ n ∧ i = .int .i64 k ∧ HdrCells wr w.heap.size n k ∧ Below w.heap.size w wr ∧ w.heap.size < wr.heap.size) (fun i _ => n - (intOf i).toNat)
    case atStart => exact ⟨0, by omega, rfl, ⟨_, heap_alloc_new w _, size_madeCells _ _, fun i hi => by omega⟩, (Below.refl _ _).alloc (Nat.le_refl _) _, by simp⟩
    case round =>
      obtain ⟨k, hk, rfl, hc, hB, hsz⟩ := hrel
      by_cases hlt : k < n
      · obtain ⟨key, sa, sl, sc, a1, a2, hkey, _, hstr⟩ := h2 k hlt
        have hsl := hsm.2 b o k sa sl sc rfl hlt a2
        have hbw : b < w.heap.size := lt_of_cell a1
        have c0 : wr.cell? ⟨b, o + k * 2, none⟩ = some (.string key) := by rw [hB.cell hbw]; exact a1
        have c1 : wr.cell? ⟨b, o + k * 2 + 1, none⟩ = some (.slice sa sl sc) := by rw [hB.cell hbw]; exact a2
        obtain ⟨v0, d0⟩ := row_cell (hdrCells_row hc) (k := k * 2) (by omega)
        obtain ⟨v1, d1⟩ := row_cell (hdrCells_row hc) (k := k * 2 + 1) (by omega)
        have f0 := row_free (hdrCells_row hc) (k * 2)
        have f1 := row_free (hdrCells_row hc) (k * 2 + 1)
        have hst := strIn_below hstr hB
        have HC : Hid (HdrCells wr w.heap.size n k) := hc
        have hbr : b < wr.heap.size := by omega
        have hne : ¬ b = w.heap.size := by omega
        have hne' : ¬ w.heap.size = b := by omega
        clear hc h2 a1 a2 hstr hsm
        have b1 : (0 : Int) ≤ (k : Int) := by omega
        have b2 : (k : Int) < (n : Int) := by omega
        go_wp2
        go_region_held3 (fun w' => w'.cell? ⟨b, o + k * 2, none⟩ = some (.string key) ∧ w'.cell? ⟨b, o + k * 2 + 1, none⟩ = some (.slice sa sl sc)) (go_keep) ((go_at_call 30; refine (cloneStrings_any _ _ _ _ hsl ?_).mono ?_; (exact hst); rintro e w2 ⟨a', c', rfl, hup, hb2⟩; have k0 := (hb2.cell (p := ⟨b, o + k * 2, none⟩) hbr).trans c0; have k1 := (hb2.cell (p := ⟨b, o + k * 2 + 1, none⟩) hbr).trans c1; have k2 := (hb2.cell (p := ⟨w.heap.size, k * 2, none⟩) hsz).trans d0; have k3 := (hb2.cell (p := ⟨w.heap.size, k * 2 + 1, none⟩) hsz).trans d1; have k4 := (hb2.frozen (p := ⟨w.heap.size, k * 2, none⟩) hsz).trans f0; have k5 := (hb2.frozen (p := ⟨w.heap.size, k * 2 + 1, none⟩) hsz).trans f1))
        have hb3 : Below wr.heap.size wr w2 := undrew hb2
        have R := hdrCells_step (sc := c') HC.out hlt hsz hb3 hup hkey hsl
        have hB2 : Below w.heap.size w w2 := hB.trans (hb3.mono (by omega))
        have hsz2 : w.heap.size < w2.heap.size := by have := hb3.size; omega
        clear hup hb2 k0 k1 k2 k3 k4 k5 c0 c1 d0 d1 f0 f1
        go_wp2
        go_roundw
        case rel => exact ⟨k + 1, by omega, by go_num, R, (hB2.setCell (p := ⟨w.heap.size, k * 2, none⟩) (Nat.le_refl _) _).setCell (p := ⟨w.heap.size, k * 2 + 1, none⟩) (Nat.le_refl _) _, by simpa using hsz2⟩
        case measure => simp [intOf]; omega
      · have e1 : k = n := by omega
        rw [e1] at hc
        have HC := hdrCells_up hc
        clear h2 hc hsm e1
        go_wp2
        go_ret
        exact ⟨_, _, rfl, HC, hB⟩
end Go.Proofs.Qxb6603097a.filterWalks
