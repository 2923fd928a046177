import Derived.Test.Qxb6001701aKeys2
namespace Go.Proofs.Qxb6001701a.keysWalks
open Go.ChangeShapes Go.WideShapes Go.ChangeAt Go.RowKit

theorem mk_names (w : World) : (Instr.makeSlice 27 (.int .i64 4) (.int .i64 4)).run Try.prog w = .ok (.slice (some ⟨w.heap.size, 0, none⟩) 4 4) (w.alloc (.cells #[.string ⟨#[]⟩, .string ⟨#[]⟩, .string ⟨#[]⟩, .string ⟨#[]⟩] 9)) := by kernel_rfl
theorem mk_tests (w : World) : (Instr.makeSlice 28 (.int .i64 4) (.int .i64 4)).run Try.prog w = .ok (.slice (some ⟨w.heap.size, 0, none⟩) 4 4) (w.alloc (.cells #[.pointer none, .bool false, .bool false, .pointer none, .bool false, .bool false, .pointer none, .bool false, .bool false, .pointer none, .bool false, .bool false] 37)) := by kernel_rfl

theorem nameRow_new {w1 : World} {n : Nat} {o : Obj} (hs : w1.heap.size = n) : NameRow ((w1.alloc (.cells #[.string (nm 0), .string (nm 1), .string (nm 2), .string (nm 3)] 9)).alloc o) n := by
  subst hs
  exact four_cases (by simp [go_sem]) (by simp [go_sem]) (by simp [go_sem]) (by simp [go_sem])
theorem testRow_new {w1 : World} {n : Nat} {o : Obj} (hs : w1.heap.size = n) (q : Nat → Option Addr) : TestRow ((w1.alloc o).alloc (.cells #[.pointer (q 0), .bool (lat 0), .bool (on 0), .pointer (q 1), .bool (lat 1), .bool (on 1), .pointer (q 2), .bool (lat 2), .bool (on 2), .pointer (q 3), .bool (lat 3), .bool (on 3)] 37)) (n + 1) q := by
  subst hs
  have e : w1.heap.size + 1 = (w1.alloc o).heap.size := by simp
  rw [e]
  exact four_cases ⟨by simp, by simp, by simp⟩ ⟨by simp, by simp, by simp⟩ ⟨by simp, by simp, by simp⟩ ⟨by simp, by simp, by simp⟩

set_option maxHeartbeats 1000000 in
theorem zzkeys_any (b : Nat) (q : Nat → Option Addr) (w : World) (hq : Four w b q) :
    Calls Try.prog 12 #[.pointer (some ⟨b, 0, none⟩)] w fun e w' => e = .returned (.tuple #[.slice (some ⟨w.heap.size + 1, 0, none⟩) 4 4, .slice (some ⟨w.heap.size + 1 + 1, 0, none⟩) 4 4]) ∧ NameRow w' (w.heap.size + 1) ∧ TestRow w' (w.heap.size + 1 + 1) q ∧ w'.heap.size = w.heap.size + 1 + 1 + 1 ∧ Below w.heap.size w w' := by
  have hm1 := mk_names
  have hm2 := mk_tests
  go_enter Try.func12, Try.ntmps12
  go_wp2_with (go_at_call 21; refine (keys_any b q _ hq).mono ?_; rintro e w1 ⟨rfl, hk, hs, hb⟩)
  obtain ⟨k00, k01, k02, k03⟩ := hk 0 (by omega)
  obtain ⟨k10, k11, k12, k13⟩ := hk 1 (by omega)
  obtain ⟨k20, k21, k22, k23⟩ := hk 2 (by omega)
  obtain ⟨k30, k31, k32, k33⟩ := hk 3 (by omega)
  simp only [Nat.zero_mul, Nat.one_mul, Nat.zero_add, Nat.reduceMul, Nat.reduceAdd] at k00 k01 k02 k03 k10 k11 k12 k13 k20 k21 k22 k23 k30 k31 k32 k33
  clear hk
  have hz : w.heap.size < w1.heap.size := by omega
  refine wp_loop_rounds 5 ?_
  rw [rounds_succ]
  go_wp2
  rw [rounds_succ]
  go_wp2
  rw [rounds_succ]
  go_wp2
  rw [rounds_succ]
  go_wp2
  rw [rounds_succ]
  go_wp2
  go_ret2
  exact ⟨rfl, nameRow_new hs, testRow_new hs q, by simp [hs], (hb.alloc (by omega) _).alloc (by simp; omega) _⟩
end Go.Proofs.Qxb6001701a.keysWalks
