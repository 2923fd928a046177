import Derived.Test.Qxb6001704aRows
import Derived.WalkKit
import Derived.ProofKit
import Derived.OpenShut
import Derived.WalkSpells
import Derived.WalkLawsBesides
import Derived.Deep.RegionHeld3
import Derived.Deep.QuietTactic
import Derived.BigQuiet
import Derived.Maps.OwnSet
namespace Go.Proofs.Qxb6001704a.colWalks
open Go.ChangeShapes Go.WideShapes Go.ChangeAt Go.RowKit Go.Maps

/-- The object of one column's values: its map's block, its last code. -/
def valObj (m : Nat) (l : Int) : Obj := .cells #[.slice none 0 0, .map (some m), .int .u32 l, .pointer none] 57

theorem newValues_any (w : World) :
    Calls Try.prog 26 #[] w fun e w' => e = .returned (.pointer (some ⟨w.heap.size + 1, 0, none⟩)) ∧ w' = (w.alloc (.map #[] 0)).alloc (valObj w.heap.size 0) := by
  have hmm := @run_makeMap Try.prog
  go_enter Try.func26, Try.ntmps26
  go_wp2
  go_ret
  exact ⟨rfl, rfl⟩

theorem info42 : (Try.prog.info? 42).map (fun i => (i.zero, i.size, i.bytes)) = some (some (.pointer none), 1, 8) := by kernel_rfl

theorem make_run (n : Nat) (hn : n ≤ 65536) (w : World) : (Instr.makeSlice 40 (.int .i64 (1 + (n : Int))) (.int .i64 (1 + (n : Int)))).run Try.prog w = .ok (.slice (some ⟨w.heap.size, 0, none⟩) (n + 1) (n + 1)) (w.alloc (.cells (madeCells #[.pointer none] (n + 1)) 42)) := by
  obtain ⟨i0, hi, hz0, hz1, hz2⟩ := info_parts info42
  have h := run_make (P := Try.prog) w 40 42 i0 (.pointer none) Try.underlying40 hi hz0 .i64 .i64 (1 + (n : Int)) (1 + (n : Int)) (by omega) (by omega) (by rw [hz2]; omega) (by omega)
  rw [hz1] at h
  have e : (1 + (n : Int)).toNat = n + 1 := by omega
  rw [e, Nat.mul_one] at h
  exact h

/-- The pointers that the slice holds when the first k columns are made. -/
def ptrs (B N k : Nat) : List Value := (List.range N).map fun j => if j < k then .pointer (some ⟨B + 2 + 2 * j, 0, none⟩) else .pointer none

theorem ptrs_zero (B N : Nat) : ptrs B N 0 = List.replicate N (.pointer none) := by
  unfold ptrs
  apply List.ext_getElem?
  intro j
  by_cases hj : j < N
  · simp [hj]
  · simp [hj]
theorem ptrs_at (B N k j : Nat) (hj : j < N) (hk : j < k) : (ptrs B N k)[j]? = some (.pointer (some ⟨B + 2 + 2 * j, 0, none⟩)) := by
  simp [ptrs, hj, hk]
theorem ptrs_some (B N k j : Nat) (hj : j < N) : ∃ v, (ptrs B N k)[j]? = some v := by simp [ptrs, hj]
theorem ptrs_set (B N k : Nat) : (ptrs B N k).set k (.pointer (some ⟨B + 2 + 2 * k, 0, none⟩)) = ptrs B N (k + 1) := by
  apply List.ext_getElem?
  intro j
  by_cases hj : j < N
  · by_cases e : k = j
    · subst e; simp [ptrs, hj]
    · rw [List.getElem?_set_ne e]
      have : (j < k) ↔ (j < k + 1) := by omega
      simp [ptrs, hj, this]
  · rw [List.getElem?_eq_none (by simp [ptrs]; omega), List.getElem?_eq_none (by simp [ptrs]; omega)]

/-- The columns' memory when the first k are made. -/
def NC (w wr : World) (B N k : Nat) : Prop :=
  wr.heap.size = B + 1 + 2 * k ∧ wr.ownsRow B 42 1 (.slice (some ⟨B, 0, none⟩) N N) N (ptrs B N k) ∧
  (∀ j, j < k → wr.heap[B + 1 + 2 * j]? = some (.map #[] 0) ∧ wr.heap[B + 2 + 2 * j]? = some (valObj (B + 1 + 2 * j) 0)) ∧ Below B w wr

theorem nc_start (w : World) (n : Nat) (hn : n ≤ 65536) : NC w (w.alloc (.cells (madeCells #[.pointer none] (n + 1)) 42)) w.heap.size (n + 1) 0 := by
  refine ⟨by simp, ?_, fun j hj => by omega, (Below.refl _ _).alloc (Nat.le_refl _) _⟩
  rw [ptrs_zero, ← toList_madeCells_one]
  exact World.ownsRow_lit w _ (n + 1) (Nat.le_refl _) (by unfold maxLen; omega) (by simp [size_madeCells])

theorem nc_step {w wr : World} {B N k : Nat} (h : NC w wr B N k) :
    NC w (((wr.alloc (.map #[] 0)).alloc (valObj wr.heap.size 0)).setCell ⟨B, k, none⟩ (.pointer (some ⟨wr.heap.size + 1, 0, none⟩))) B N (k + 1) := by
  obtain ⟨h1, h2, h3, h4⟩ := h
  have hs : wr.heap.size + 1 = B + 2 + 2 * k := by omega
  have hst := ((h2.alloc (.map #[] 0)).alloc (valObj wr.heap.size 0)).stored k (.pointer (some ⟨wr.heap.size + 1, 0, none⟩))
  have hblk : ∀ j, j ≠ B → (((wr.alloc (.map #[] 0)).alloc (valObj wr.heap.size 0)).setCell ⟨B, k, none⟩ (.pointer (some ⟨wr.heap.size + 1, 0, none⟩))).heap[j]? = ((wr.alloc (.map #[] 0)).alloc (valObj wr.heap.size 0)).heap[j]? := fun j hj => Below.heap_setCell _ _ _ _ hj
  refine ⟨by simp; omega, ?_, ?_, ((h4.alloc (by omega) _).alloc (by simp; omega) _).setCell (Nat.le_refl _) _⟩
  · have := hst.1
    rw [← ptrs_set, ← hs]
    exact this
  · intro j hj
    rw [hblk _ (by omega), hblk _ (by omega)]
    by_cases e : j = k
    · subst e
      constructor
      · rw [Below.heap_alloc _ _ _ (by simp; omega)]
        have := heap_alloc_new wr (.map #[] 0)
        rw [h1] at this
        exact this
      · have := heap_alloc_new (wr.alloc (.map #[] 0)) (valObj wr.heap.size 0)
        simp only [World.size_alloc] at this
        rw [hs] at this
        rw [this, h1]
    · obtain ⟨a, b⟩ := h3 j (by omega)
      constructor
      · rw [Below.heap_alloc _ _ _ (by simp; omega), Below.heap_alloc _ _ _ (by omega)]; exact a
      · rw [Below.heap_alloc _ _ _ (by simp; omega), Below.heap_alloc _ _ _ (by omega)]; exact b

theorem nc_step' {w wr : World} {B N k : Nat} (h : NC w wr B N k) :
    NC w (((wr.setCell ⟨B, k, none⟩ (.pointer (some ⟨wr.heap.size + 1, 0, none⟩))).alloc (.map #[] 0)).alloc (valObj wr.heap.size 0)) B N (k + 1) := by
  have h1 := h.1
  have hs := nc_step h
  rw [World.setCell_alloc_past _ _ _ _ (by simp; omega), World.setCell_alloc_past _ _ _ _ (by omega)] at hs
  exact hs

theorem new_any (n : Nat) (hn : n ≤ 65536) (w : World) :
    Calls Try.prog 25 #[.int .i64 n] w fun e w' => e = .returned (.slice (some ⟨w.heap.size, 0, none⟩) (n + 1) (n + 1)) ∧ NC w w' w.heap.size (n + 1) (n + 1) := by
  have hmk := make_run n hn
  go_enter Try.func25, Try.ntmps25
  go_wp2
  go_loopw [10] (fun i wr => ∃ k : Nat, k ≤ n + 1 ∧ i = .int .i64 k ∧ NC w wr w.heap.size (n + 1) k) (fun i _ => n + 1 - (intOf i).toNat)
  case atStart => exact ⟨0, by omega, rfl, nc_start w n hn⟩
  case round =>
    obtain ⟨k, hk, rfl, hr⟩ := hrel
    by_cases hlt : k < n + 1
    · obtain ⟨v0, hv0⟩ := ptrs_some w.heap.size (n + 1) k k hlt
      have c0 : wr.cell? ⟨w.heap.size, k, none⟩ = some v0 := by rw [hr.2.1.cellAt k (by omega)]; exact hv0
      have f0 := hr.2.1.frozenAt k
      have hsz : w.heap.size < wr.heap.size := by have := hr.1; omega
      have HR : Hid (NC w wr w.heap.size (n + 1) k) := hr
      clear hr hv0
      go_wp2_with (go_at_call 26; refine (newValues_any _).mono ?_; rintro e w' ⟨rfl, rfl⟩)
      go_roundw
      case rel => exact ⟨k + 1, by omega, by go_num, nc_step' HR.out⟩
      case measure => simp [intOf]; omega
    · have e1 : k = n + 1 := by omega
      subst e1
      have HR : Hid (NC w wr w.heap.size (n + 1) (n + 1)) := hr
      clear hr
      go_wp2
      go_ret
      exact ⟨rfl, HR.out⟩

theorem znew_any (n : Nat) (hn : n ≤ 65536) (w : World) :
    Calls Try.prog 18 #[.int .i64 n] w fun e w' => e = .returned (.slice (some ⟨w.heap.size, 0, none⟩) (n + 1) (n + 1)) ∧ NC w w' w.heap.size (n + 1) (n + 1) := by
  go_enter Try.func18, Try.ntmps18
  go_wp2_with (go_at_call 25; refine (new_any n hn _).mono ?_; rintro e w' ⟨rfl, hnc⟩)
  go_ret
  exact ⟨rfl, hnc⟩

theorem cells_of_val {w : World} {S M : Nat} {l : Int} (h : w.heap[S]? = some (valObj M l)) :
    w.cell? ⟨S, 0, none⟩ = some (.slice none 0 0) ∧ w.cell? ⟨S, 1, none⟩ = some (.map (some M)) ∧ w.cell? ⟨S, 2, none⟩ = some (.int .u32 l) ∧ w.cell? ⟨S, 3, none⟩ = some (.pointer none) := by
  refine ⟨?_, ?_, ?_, ?_⟩ <;> simp [World.cell?, h, valObj]

theorem shape_any (w : World) (S M m : Nat) (l : Int) (D : DataW Unit) (hS : w.heap[S]? = some (valObj M l)) (hM : w.ownsMap Try.prog 9 (plainElem Try.prog 22) M m D) :
    Calls Try.prog 19 #[.pointer (some ⟨S, 0, none⟩)] w fun e w' => ∃ n, e = .returned (.tuple #[.int .i64 0, .bool false, .int .i64 (Maps.size D), .int .u32 l, .bool true]) ∧ w' = w.drewN n := by
  obtain ⟨c0, c1, c2, c3⟩ := cells_of_val hS
  have hlen := fun (a : Nat) => (show (w.drewN a).ownsMap Try.prog 9 (plainElem Try.prog 22) M m D from hM).len Try.underlying54 3
  clear hS hM
  have hnil := fun (w : World) (r : Option Nat) => run_eql_map_nil (P := Try.prog) w 54 9 22 r Try.underlying54
  go_enter Try.func19, Try.ntmps19
  go_wp2
  go_quiet ((fail))
  go_wp2
  exact bodyPost_ret (v := .tuple #[.int .i64 0, .bool false, .int .i64 (Maps.size D), .int .u32 l, .bool true]) (by simp [results, Try.results19, go_sem]) rfl ⟨_, rfl, rfl⟩
end Go.Proofs.Qxb6001704a.colWalks
