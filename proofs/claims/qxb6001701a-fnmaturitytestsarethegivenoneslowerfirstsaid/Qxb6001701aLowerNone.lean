import Derived.Test.Qxb6001701aLower
namespace Go.Proofs.Qxb6001701a.keysWalks
open Go.ChangeShapes Go.WideShapes Go.ChangeAt Go.RowKit
set_option linter.unusedSimpArgs false

set_option maxHeartbeats 1000000 in
theorem walk_none (w : World) :
    Calls Try.prog 5 #[.bool false, .bool false, .bool false, .bool false] w fun e w' => e = .returned (.bool true) ∧ Below w.heap.size w w' := by
  go_enter Try.func5, Try.ntmps5
  go_wp2_with (go_at_call 11; refine (maturity_any false false false false _).mono ?_; rintro e w1 ⟨q, rfl, hq, i0, i1, i2, i3, hs1, hb1⟩)
  have j0 : q 0 = none := by simpa using i0
  have j1 : q 1 = none := by simpa using i1
  have j2 : q 2 = none := by simpa using i2
  have j3 : q 3 = none := by simpa using i3
  have hK : K q 4 = [] := by simp [K, j0, j1, j2, j3]
  have HK : Hid (K q 4 = []) := hK
  clear i0 i1 i2 i3 hK
  have hF := hq
  obtain ⟨q0, q1, q2, q3⟩ := hq
  rw [j0] at q0
  rw [j1] at q1
  rw [j2] at q2
  rw [j3] at q3
  clear j0 j1 j2 j3
  have HF : Hid (Four w1 w.heap.size q) := hF
  clear hF
  go_region_held3 (fun w' => w'.cell? ⟨w.heap.size, 0, none⟩ = some (.pointer none) ∧ w'.cell? ⟨w.heap.size, 1, none⟩ = some (.pointer none) ∧ w'.cell? ⟨w.heap.size, 2, none⟩ = some (.pointer none) ∧ w'.cell? ⟨w.heap.size, 3, none⟩ = some (.pointer none)) (go_keep) (fail)
  go_wp2_with (first | (go_at_call 15; refine (tests_none w.heap.size q _ ?hq HK.out).mono ?_; (case hq => exact four_below HF.out ((Below.refl _ _).alloc (Nat.le_refl _) _).drew (by omega)); rintro e w2 ⟨ao, cap, rfl, hs2, hb2⟩) | (go_at_call 12; refine (zzkeys_any w.heap.size q w2 ?hq2).mono ?_; (case hq2 => exact four_below (four_below HF.out ((Below.refl _ _).alloc (Nat.le_refl _) _).drew (by omega)) hb2 (by simp; omega)); rintro e w3 ⟨rfl, hnm, htr, hs3, hb3⟩))
  have hsz2 := hb2.size
  simp at hsz2
  have hB3 : Below w.heap.size w w3 := (((hb1.alloc (by omega) _).drew).trans (hb2.mono (by simp; omega))).trans (hb3.mono (by omega))
  have f0 : w3.cell? ⟨w1.heap.size, 0, none⟩ = some (.pointer none) := by rw [hb3.cell (by show w1.heap.size < _; omega), hb2.cell (by simp)]; simp
  have f1 : w3.cell? ⟨w1.heap.size, 1, none⟩ = some (.pointer none) := by rw [hb3.cell (by show w1.heap.size < _; omega), hb2.cell (by simp)]; simp
  have f2 : w3.cell? ⟨w1.heap.size, 2, none⟩ = some (.pointer none) := by rw [hb3.cell (by show w1.heap.size < _; omega), hb2.cell (by simp)]; simp
  have f3 : w3.cell? ⟨w1.heap.size, 3, none⟩ = some (.pointer none) := by rw [hb3.cell (by show w1.heap.size < _; omega), hb2.cell (by simp)]; simp
  clear hb2 hb3 htr hnm hb1 q0 q1 q2 q3
  refine wp_loop_rounds 5 ?_
  rw [rounds_succ]
  go_wp2
  rw [rounds_succ]
  go_wp2
  rw [rounds_succ]
  go_wp2
  rw [rounds_succ]
  go_wp2
  rw [rounds_succ]
  go_wp2
  refine wp_loop_rounds 1 ?_
  rw [rounds_succ]
  go_wp2
  go_ret
  exact ⟨rfl, hB3⟩
end Go.Proofs.Qxb6001701a.keysWalks
