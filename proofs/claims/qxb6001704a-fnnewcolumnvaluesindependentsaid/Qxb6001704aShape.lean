import Derived.Test.Qxb6001704aCols
namespace Go.Proofs.Qxb6001704a.colWalks
open Go.ChangeShapes Go.WideShapes Go.ChangeAt Go.RowKit Go.Maps

theorem own_empty {w : World} {b : Nat} (h : w.heap[b]? = some (.map #[] 0)) : w.ownsMap Try.prog 9 (plainElem (H := Unit) Try.prog 22) b 0 (.map []) := by
  obtain ⟨es, clock, h0, F, hs, hd⟩ := World.ownsMap_made (H := Unit) w Try.prog 9 (plainElem Try.prog 22)
  have e := heap_alloc_new w (.map #[] 0)
  rw [e] at h0
  simp only [Option.some.injEq, Obj.map.injEq] at h0
  obtain ⟨rfl, rfl⟩ := h0
  exact ⟨_, _, h, F, hs, hd⟩

theorem nc_drewN {w wr : World} {B N k : Nat} (h : NC w wr B N k) (d : Nat) : NC w (wr.drewN d) B N k :=
  ⟨h.1, h.2.1, h.2.2.1, ⟨h.2.2.2.os, h.2.2.2.tape, h.2.2.2.output, h.2.2.2.size, h.2.2.2.block⟩⟩

theorem nc_cell {w wr : World} {B N : Nat} (h : NC w wr B N N) {j : Nat} (hj : j < N) : wr.cell? ⟨B, j, none⟩ = some (.pointer (some ⟨B + 2 + 2 * j, 0, none⟩)) := by
  rw [h.2.1.cellAt j (by omega)]; exact ptrs_at B N N j hj hj

theorem size_nil : Maps.size (.map [] : DataW Unit) = 0 := rfl

set_option maxHeartbeats 400000 in
theorem swalk_in (n : Nat) (hn : n ≤ 65536) (w : World) :
    Calls Try.prog 7 #[.int .i64 n] w fun e w' => e = .returned (.bool true) ∧ Below w.heap.size w w' := by
  have hlen : (((n : Int) + 1) != (n : Int) + 1) = false := by simp
  go_enter Try.func7, Try.ntmps7
  go_wp2_with (go_at_call 18; refine (znew_any n hn _).mono ?_; rintro e w1 ⟨rfl, hnc⟩)
  go_loopw [4] (fun i wr => ∃ k : Nat, k ≤ n + 1 ∧ i = .int .i64 k ∧ NC w wr w.heap.size (n + 1) (n + 1)) (fun i _ => n + 1 - (intOf i).toNat)
  case atStart => exact ⟨0, by omega, rfl, hnc⟩
  case round =>
    clear hnc
    obtain ⟨k, hk, rfl, hr⟩ := hrel
    by_cases hlt : k < n + 1
    · have c0 := nc_cell hr hlt
      obtain ⟨m0, s0⟩ := hr.2.2.1 k hlt
      have HR : Hid (NC w wr w.heap.size (n + 1) (n + 1)) := hr
      have hsh := shape_any wr _ _ 0 0 _ s0 (own_empty m0)
      rw [size_nil] at hsh
      clear hr m0 s0
      go_wp2_with (go_at_call 19; refine hsh.mono ?_; rintro e w' ⟨d, rfl, rfl⟩)
      go_roundw
      case rel => exact ⟨k + 1, by omega, by go_num, nc_drewN HR.out d⟩
      case measure => simp [intOf]; omega
    · have HR : Hid (Below w.heap.size w wr) := hr.2.2.2
      clear hr
      go_wp2
      go_ret
      exact ⟨rfl, HR.out⟩
end Go.Proofs.Qxb6001704a.colWalks
