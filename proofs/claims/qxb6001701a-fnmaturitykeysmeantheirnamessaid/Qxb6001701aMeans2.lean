import Derived.Test.Qxb6001701aMeans
import Derived.Lib.Builder
namespace Go.Proofs.Qxb6001701a.keysWalks
open Go.ChangeShapes Go.WideShapes Go.ChangeAt Go.RowKit
set_option linter.unusedSimpArgs false

theorem mbytes_yes (a0 a1 a2 a3 : Bool) (s t : ByteArray) (w : World) (h : s.size + t.size ≤ 1048576) : Calls Try.prog 10 #[.bool a0, .bool a1, .bool a2, .bool a3, .string s, .string t] w fun e w' => e = .returned (.bool true) ∧ w = w' := by
  go_enter Try.func10, Try.ntmps10
  go_wp2
  go_ret
  exact ⟨rfl, rfl⟩
theorem mbytes_no (a0 a1 a2 a3 : Bool) (s t : ByteArray) (w : World) (h1 : s.size ≤ maxLen) (h2 : t.size ≤ maxLen) (h : ¬ s.size + t.size ≤ 1048576) : Calls Try.prog 10 #[.bool a0, .bool a1, .bool a2, .bool a3, .string s, .string t] w fun e w' => e = .returned (.bool false) ∧ w = w' := by
  unfold maxLen at h1 h2
  go_enter Try.func10, Try.ntmps10
  go_wp2
  all_goals
    go_ret
    exact ⟨rfl, rfl⟩

theorem isSome52' : (Try.prog.info? 52).isSome = true := by kernel_rfl
theorem neq_ptr' (w : World) (q : Option Addr) : (binOp .neq 32 (.pointer q) (.pointer q)).run Try.prog w = .ok (.bool false) w := by
  obtain ⟨j, hj⟩ := Option.isSome_iff_exists.mp isSome52'
  cases q with
  | none => simp [go_sem]
  | some a => exact Lib.run_neq_ptr_same w a Try.underlying32 hj

theorem four_below' {w w' : World} {g B : Nat} {q : Nat → Option Addr} (h : Four w g q) (hb : Below B w w') (hg : g < B) : Four w' g q := by
  obtain ⟨h0, h1, h2, h3⟩ := h
  refine ⟨?_, ?_, ?_, ?_⟩ <;> (rw [hb.cell (by exact hg)]; assumption)

/-- What the loop reads, in the world that it runs in: the names, the tests, the wanted names, the wanted pointers. -/
def Sees (w : World) (q : Nat → Option Addr) (N T X A : Nat) : Prop := NameRow w N ∧ TestRow w T q ∧ NameRow w X ∧ Four w A q ∧ N < w.heap.size ∧ T < w.heap.size ∧ X < w.heap.size ∧ A < w.heap.size

theorem sees_alloc {w : World} {q : Nat → Option Addr} {N T X A : Nat} (h : Sees w q N T X A) (o : Obj) : Sees (w.alloc o) q N T X A := by
  obtain ⟨h1, h2, h3, h4, n1, n2, n3, n4⟩ := h
  have hb : Below w.heap.size w (w.alloc o) := (Below.refl _ _).alloc (Nat.le_refl _) _
  refine ⟨fun i hi => ?_, fun i hi => ?_, fun i hi => ?_, four_below' h4 hb n4, by simp; omega, by simp; omega, by simp; omega, by simp; omega⟩
  · rw [hb.cell (by exact n1)]; exact h1 i hi
  · rw [hb.cell (by exact n2), hb.cell (by exact n2), hb.cell (by exact n2)]; exact h2 i hi
  · rw [hb.cell (by exact n3)]; exact h3 i hi

theorem sees_of {w2 : World} {q : Nat → Option Addr} {N T : Nat} (hn : NameRow w2 N) (ht : TestRow w2 T q) (n1 : N < w2.heap.size) (n2 : T < w2.heap.size) :
    Sees ((w2.alloc (.cells #[.string (nm 0), .string (nm 1), .string (nm 2), .string (nm 3)] 31)).alloc (.cells #[.pointer (q 0), .pointer (q 1), .pointer (q 2), .pointer (q 3)] 35)).drew q N T w2.heap.size (w2.heap.size + 1) := by
  have hb : Below w2.heap.size w2 ((w2.alloc (.cells #[.string (nm 0), .string (nm 1), .string (nm 2), .string (nm 3)] 31)).alloc (.cells #[.pointer (q 0), .pointer (q 1), .pointer (q 2), .pointer (q 3)] 35)).drew := (((Below.refl _ _).alloc (Nat.le_refl _) _).alloc (by simp) _).drew
  refine ⟨fun i hi => ?_, fun i hi => ?_, ?_, ?_, by simp; omega, by simp; omega, by simp; omega, by simp⟩
  · rw [hb.cell (by exact n1)]; exact hn i hi
  · rw [hb.cell (by exact n2), hb.cell (by exact n2), hb.cell (by exact n2)]; exact ht i hi
  · exact four_cases (by simp [go_sem]) (by simp [go_sem]) (by simp [go_sem]) (by simp [go_sem])
  · have e : w2.heap.size + 1 = (w2.alloc (.cells #[.string (nm 0), .string (nm 1), .string (nm 2), .string (nm 3)] 31)).heap.size := by simp
    rw [e]
    exact ⟨by simp, by simp, by simp, by simp⟩

set_option maxHeartbeats 4000000 in
theorem mwalk_in (a0 a1 a2 a3 : Bool) (s t : ByteArray) (w : World) (hs : s.size ≤ 65536) (ht : t.size ≤ 65536) :
    Calls Try.prog 4 #[.bool a0, .bool a1, .bool a2, .bool a3, .string s, .string t] w fun e w' => e = .returned (.bool true) ∧ Below w.heap.size w w' := by
  have hnp := neq_ptr'
  go_enter Try.func4, Try.ntmps4
  go_wp2_with (first | (go_at_call 10; refine (mbytes_yes a0 a1 a2 a3 s t _ (by omega)).mono ?_; rintro e w' ⟨rfl, rfl⟩) | (go_at_call 11; refine (maturity_any a0 a1 a2 a3 _).mono ?_; rintro e w1 ⟨q, rfl, hq, i0, i1, i2, i3, hs1, hb1⟩) | (go_at_call 12; refine (zzkeys_any w.heap.size q w1 hq).mono ?_; rintro e w2 ⟨rfl, hnm, htr, hs2, hb2⟩))
  clear i0 i1 i2 i3
  have hq2 := four_below' hq hb2 hs1
  obtain ⟨q0, q1, q2, q3⟩ := hq2
  go_region_held3 (fun w' => w'.cell? ⟨w.heap.size, 0, none⟩ = some (.pointer (q 0)) ∧ w'.cell? ⟨w.heap.size, 1, none⟩ = some (.pointer (q 1)) ∧ w'.cell? ⟨w.heap.size, 2, none⟩ = some (.pointer (q 2)) ∧ w'.cell? ⟨w.heap.size, 3, none⟩ = some (.pointer (q 3))) (go_keep) (fail)
  go_wp2
  have hSees := sees_of hnm htr (by omega) (by omega)
  have hB2 : Below w.heap.size w ((w2.alloc (.cells #[.string (nm 0), .string (nm 1), .string (nm 2), .string (nm 3)] 31)).alloc (.cells #[.pointer (q 0), .pointer (q 1), .pointer (q 2), .pointer (q 3)] 35)).drew := (((hb1.trans (hb2.mono (by omega))).alloc (by omega) _).alloc (by simp; omega) _).drew
  rw [hs2] at hSees
  clear hb1 hb2 hnm htr hq q0 q1 q2 q3
  go_loopw [18] (fun i wr => ∃ k : Nat, k ≤ 4 ∧ i = .int .i64 k ∧ Sees wr q (w1.heap.size + 1) (w1.heap.size + 1 + 1) (w1.heap.size + 1 + 1 + 1) (w1.heap.size + 1 + 1 + 1 + 1) ∧ Below w.heap.size w wr) (fun i _ => 4 - (intOf i).toNat)
  case atStart => exact ⟨0, by omega, rfl, hSees, hB2⟩
  case round =>
    clear hSees hB2
    obtain ⟨k, hk4, rfl, hS, hB⟩ := hrel
    by_cases hlt : k < 4
    · have hsp : k = 0 ∨ k = 1 ∨ k = 2 ∨ k = 3 := by omega
      rcases hsp with rfl | rfl | rfl | rfl
      · have hn := hS.1 0 (by omega)
        obtain ⟨t0, t1, t2⟩ := hS.2.1 0 (by omega)
        have hx := hS.2.2.1 0 (by omega)
        obtain ⟨f0, f1, f2, f3⟩ := hS.2.2.2.1
        simp only [Nat.zero_mul, Nat.one_mul, Nat.zero_add, Nat.reduceMul, Nat.reduceAdd] at t0 t1 t2
        clear f1 f2 f3
        have HS : Hid (Sees wr q (w1.heap.size + 1) (w1.heap.size + 1 + 1) (w1.heap.size + 1 + 1 + 1) (w1.heap.size + 1 + 1 + 1 + 1)) := hS
        have hsz : w1.heap.size + 1 + 1 + 1 < wr.heap.size := hS.2.2.2.2.2.2.1
        have hwz : w.heap.size ≤ wr.heap.size := hB.size
        clear hS
        go_wp2
        go_region_held3 (fun w' => w'.cell? ⟨w1.heap.size + 1, 0, none⟩ = some (.string (nm 0)) ∧ w'.cell? ⟨w1.heap.size + 1 + 1 + 1, 0, none⟩ = some (.string (nm 0)) ∧ w'.cell? ⟨w1.heap.size + 1 + 1, 0, none⟩ = some (.pointer (q 0)) ∧ w'.cell? ⟨w1.heap.size + 1 + 1 + 1 + 1, 0, none⟩ = some (.pointer (q 0))) (go_keep) (fail)
        go_wp2
        go_region_held3 (fun w' => w'.cell? ⟨w1.heap.size + 1 + 1 + 1, 0, none⟩ = some (.string (nm 0)) ∧ w'.cell? ⟨w1.heap.size + 1 + 1, 0, none⟩ = some (.pointer (q 0)) ∧ w'.cell? ⟨w1.heap.size + 1 + 1, 1, none⟩ = some (.bool (lat 0)) ∧ w'.cell? ⟨w1.heap.size + 1 + 1, 2, none⟩ = some (.bool (on 0))) (go_keep) (first | (go_at_call 13; refine (meets_0 _ _ _ _).mono ?_; rintro e w' ⟨rfl, rfl⟩) | (go_at_call 14; refine (meaning_0 _ _ _).mono ?_; rintro e w' ⟨rfl, rfl⟩))
        all_goals go_wp2
        all_goals
          go_roundw
          case rel => exact ⟨0 + 1, by omega, rfl, sees_alloc HS.out _, (hB.alloc hwz _).drew.drew⟩
          case measure => simp [intOf]
      · have hn := hS.1 1 (by omega)
        obtain ⟨t0, t1, t2⟩ := hS.2.1 1 (by omega)
        have hx := hS.2.2.1 1 (by omega)
        obtain ⟨f0, f1, f2, f3⟩ := hS.2.2.2.1
        simp only [Nat.zero_mul, Nat.one_mul, Nat.zero_add, Nat.reduceMul, Nat.reduceAdd] at t0 t1 t2
        clear f0 f2 f3
        have HS : Hid (Sees wr q (w1.heap.size + 1) (w1.heap.size + 1 + 1) (w1.heap.size + 1 + 1 + 1) (w1.heap.size + 1 + 1 + 1 + 1)) := hS
        have hsz : w1.heap.size + 1 + 1 + 1 < wr.heap.size := hS.2.2.2.2.2.2.1
        have hwz : w.heap.size ≤ wr.heap.size := hB.size
        clear hS
        go_wp2
        go_region_held3 (fun w' => w'.cell? ⟨w1.heap.size + 1, 1, none⟩ = some (.string (nm 1)) ∧ w'.cell? ⟨w1.heap.size + 1 + 1 + 1, 1, none⟩ = some (.string (nm 1)) ∧ w'.cell? ⟨w1.heap.size + 1 + 1, 3, none⟩ = some (.pointer (q 1)) ∧ w'.cell? ⟨w1.heap.size + 1 + 1 + 1 + 1, 1, none⟩ = some (.pointer (q 1))) (go_keep) (fail)
        go_wp2
        go_region_held3 (fun w' => w'.cell? ⟨w1.heap.size + 1 + 1 + 1, 1, none⟩ = some (.string (nm 1)) ∧ w'.cell? ⟨w1.heap.size + 1 + 1, 3, none⟩ = some (.pointer (q 1)) ∧ w'.cell? ⟨w1.heap.size + 1 + 1, 4, none⟩ = some (.bool (lat 1)) ∧ w'.cell? ⟨w1.heap.size + 1 + 1, 5, none⟩ = some (.bool (on 1))) (go_keep) (first | (go_at_call 13; refine (meets_1 _ _ _ _).mono ?_; rintro e w' ⟨rfl, rfl⟩) | (go_at_call 14; refine (meaning_1 _ _ _).mono ?_; rintro e w' ⟨rfl, rfl⟩))
        all_goals go_wp2
        all_goals
          go_roundw
          case rel => exact ⟨1 + 1, by omega, rfl, sees_alloc HS.out _, (hB.alloc hwz _).drew.drew⟩
          case measure => simp [intOf]
      · have hn := hS.1 2 (by omega)
        obtain ⟨t0, t1, t2⟩ := hS.2.1 2 (by omega)
        have hx := hS.2.2.1 2 (by omega)
        obtain ⟨f0, f1, f2, f3⟩ := hS.2.2.2.1
        simp only [Nat.zero_mul, Nat.one_mul, Nat.zero_add, Nat.reduceMul, Nat.reduceAdd] at t0 t1 t2
        clear f0 f1 f3
        have HS : Hid (Sees wr q (w1.heap.size + 1) (w1.heap.size + 1 + 1) (w1.heap.size + 1 + 1 + 1) (w1.heap.size + 1 + 1 + 1 + 1)) := hS
        have hsz : w1.heap.size + 1 + 1 + 1 < wr.heap.size := hS.2.2.2.2.2.2.1
        have hwz : w.heap.size ≤ wr.heap.size := hB.size
        clear hS
        go_wp2
        go_region_held3 (fun w' => w'.cell? ⟨w1.heap.size + 1, 2, none⟩ = some (.string (nm 2)) ∧ w'.cell? ⟨w1.heap.size + 1 + 1 + 1, 2, none⟩ = some (.string (nm 2)) ∧ w'.cell? ⟨w1.heap.size + 1 + 1, 6, none⟩ = some (.pointer (q 2)) ∧ w'.cell? ⟨w1.heap.size + 1 + 1 + 1 + 1, 2, none⟩ = some (.pointer (q 2))) (go_keep) (fail)
        go_wp2
        go_region_held3 (fun w' => w'.cell? ⟨w1.heap.size + 1 + 1 + 1, 2, none⟩ = some (.string (nm 2)) ∧ w'.cell? ⟨w1.heap.size + 1 + 1, 6, none⟩ = some (.pointer (q 2)) ∧ w'.cell? ⟨w1.heap.size + 1 + 1, 7, none⟩ = some (.bool (lat 2)) ∧ w'.cell? ⟨w1.heap.size + 1 + 1, 8, none⟩ = some (.bool (on 2))) (go_keep) (first | (go_at_call 13; refine (meets_2 _ _ _ _).mono ?_; rintro e w' ⟨rfl, rfl⟩) | (go_at_call 14; refine (meaning_2 _ _ _).mono ?_; rintro e w' ⟨rfl, rfl⟩))
        all_goals go_wp2
        all_goals
          go_roundw
          case rel => exact ⟨2 + 1, by omega, rfl, sees_alloc HS.out _, (hB.alloc hwz _).drew.drew⟩
          case measure => simp [intOf]
      · have hn := hS.1 3 (by omega)
        obtain ⟨t0, t1, t2⟩ := hS.2.1 3 (by omega)
        have hx := hS.2.2.1 3 (by omega)
        obtain ⟨f0, f1, f2, f3⟩ := hS.2.2.2.1
        simp only [Nat.zero_mul, Nat.one_mul, Nat.zero_add, Nat.reduceMul, Nat.reduceAdd] at t0 t1 t2
        clear f0 f1 f2
        have HS : Hid (Sees wr q (w1.heap.size + 1) (w1.heap.size + 1 + 1) (w1.heap.size + 1 + 1 + 1) (w1.heap.size + 1 + 1 + 1 + 1)) := hS
        have hsz : w1.heap.size + 1 + 1 + 1 < wr.heap.size := hS.2.2.2.2.2.2.1
        have hwz : w.heap.size ≤ wr.heap.size := hB.size
        clear hS
        go_wp2
        go_region_held3 (fun w' => w'.cell? ⟨w1.heap.size + 1, 3, none⟩ = some (.string (nm 3)) ∧ w'.cell? ⟨w1.heap.size + 1 + 1 + 1, 3, none⟩ = some (.string (nm 3)) ∧ w'.cell? ⟨w1.heap.size + 1 + 1, 9, none⟩ = some (.pointer (q 3)) ∧ w'.cell? ⟨w1.heap.size + 1 + 1 + 1 + 1, 3, none⟩ = some (.pointer (q 3))) (go_keep) (fail)
        go_wp2
        go_region_held3 (fun w' => w'.cell? ⟨w1.heap.size + 1 + 1 + 1, 3, none⟩ = some (.string (nm 3)) ∧ w'.cell? ⟨w1.heap.size + 1 + 1, 9, none⟩ = some (.pointer (q 3)) ∧ w'.cell? ⟨w1.heap.size + 1 + 1, 10, none⟩ = some (.bool (lat 3)) ∧ w'.cell? ⟨w1.heap.size + 1 + 1, 11, none⟩ = some (.bool (on 3))) (go_keep) (first | (go_at_call 13; refine (meets_3 _ _ _ _).mono ?_; rintro e w' ⟨rfl, rfl⟩) | (go_at_call 14; refine (meaning_3 _ _ _).mono ?_; rintro e w' ⟨rfl, rfl⟩))
        all_goals go_wp2
        all_goals
          go_roundw
          case rel => exact ⟨3 + 1, by omega, rfl, sees_alloc HS.out _, (hB.alloc hwz _).drew.drew⟩
          case measure => simp [intOf]
    · go_wp2
      go_ret
      exact ⟨rfl, hB⟩
end Go.Proofs.Qxb6001701a.keysWalks
