import Derived.Test.Qxb6001704aIndep
namespace Go.Proofs.Qxb6001704a.colWalks
open Go.ChangeShapes Go.WideShapes Go.ChangeAt Go.RowKit Go.Maps

def lst (k j : Nat) : Int := if j < k then (j : Int) + 1 else 0

/-- The columns' memory when the first k have been written. -/
def IC (w wr : World) (B N k : Nat) : Prop :=
  (∀ j, j < N → wr.cell? ⟨B, j, none⟩ = some (.pointer (some ⟨B + 2 + 2 * j, 0, none⟩))) ∧
  (∀ j, j < N → wr.heap[B + 2 + 2 * j]? = some (valObj (B + 1 + 2 * j) (lst k j))) ∧
  (∀ j, j < N → j < k → wr.ownsMap Try.prog 9 (plainElem Try.prog 22) (B + 1 + 2 * j) 1 (D1 (j : Int))) ∧
  (∀ j, j < N → k ≤ j → wr.ownsMap Try.prog 9 (plainElem (H := Unit) Try.prog 22) (B + 1 + 2 * j) 0 (.map [])) ∧
  Below B w wr ∧ B + 1 + 2 * N ≤ wr.heap.size

theorem ic_start {w wr : World} {B N : Nat} (h : NC w wr B N N) : IC w wr B N 0 :=
  ⟨fun _ hj => nc_cell h hj, fun j hj => (h.2.2.1 j hj).2, fun j _ h0 => by omega, fun j hj _ => own_empty (h.2.2.1 j hj).1, h.2.2.2, by have := h.1; omega⟩

theorem ic_drewN {w wr : World} {B N k : Nat} (h : IC w wr B N k) (d : Nat) : IC w (wr.drewN d) B N k :=
  ⟨h.1, h.2.1, h.2.2.1, h.2.2.2.1, below_drewN h.2.2.2.2.1 d, h.2.2.2.2.2⟩

theorem lst_old {k j : Nat} (h : j ≠ k) : lst (k + 1) j = lst k j := by
  unfold lst
  have : (j < k + 1) ↔ (j < k) := by omega
  simp [this]
theorem lst_new (k : Nat) : lst (k + 1) k = (k : Int) + 1 := by simp [lst]

theorem val_set (w : World) (S M : Nat) (l x : Int) (h : w.heap[S]? = some (valObj M l)) : (w.setCell ⟨S, 2, none⟩ (.int .u32 x)).heap[S]? = some (valObj M x) := by
  unfold valObj at h ⊢
  rw [heap_setCell_same w S 2 _ 57 _ h]
  rfl

theorem ic_step {w wr w2 : World} {B N k : Nat} (h : IC w wr B N k) (hk : k < N) (hown : w2.ownsMap Try.prog 9 (plainElem Try.prog 22) (B + 1 + 2 * k) 1 (D1 (k : Int)))
    (hg : (wr.setCell ⟨B + 2 + 2 * k, 2, none⟩ (.int .u32 ((k : Int) + 1))).grownBy w2 (some (B + 1 + 2 * k))) : IC w w2 B N (k + 1) := by
  obtain ⟨h1, h2, h3, h4, h5, h6⟩ := h
  have hsz : (wr.setCell ⟨B + 2 + 2 * k, 2, none⟩ (.int .u32 ((k : Int) + 1))).heap.size = wr.heap.size := by simp
  have hb : ∀ i, i < wr.heap.size → i ≠ B + 1 + 2 * k → i ≠ B + 2 + 2 * k → w2.heap[i]? = wr.heap[i]? := fun i hi e1 e2 => by
    rw [hg.block i (by omega) (by simp; omega), Below.heap_setCell _ _ _ _ e2]
  have hm : ∀ j D n, j < N → j ≠ k → wr.ownsMap Try.prog 9 (plainElem (H := Unit) Try.prog 22) (B + 1 + 2 * j) n D → w2.ownsMap Try.prog 9 (plainElem Try.prog 22) (B + 1 + 2 * j) n D := by
    rintro j D n hj e ⟨es, clock, hh, r⟩
    exact ⟨es, clock, by rw [hb _ (by omega) (by omega) (by omega)]; exact hh, r⟩
  refine ⟨fun j hj => ?_, fun j hj => ?_, fun j hj hjk => ?_, fun j hj hjk => hm j _ _ hj (by omega) (h4 j hj (by omega)), ?_, ?_⟩
  · rw [World.cell?_of_block (w := wr) (hb B (by omega) (by omega) (by omega))]; exact h1 j hj
  · by_cases e : j = k
    · subst e
      rw [lst_new, hg.block _ (by omega) (by simp)]
      exact val_set wr _ _ _ _ (h2 j hj)
    · rw [lst_old e, hb _ (by omega) (by omega) (by omega)]; exact h2 j hj
  · by_cases e : j = k
    · subst e; exact hown
    · exact hm j _ _ hj e (h3 j hj (by omega))
  · exact Below.grown (h5.setCell (by show B ≤ B + 2 + 2 * k; omega) _) hg (by rw [hsz]; omega) (fun i hi => by simp at hi; omega)
  · have := hg.size; omega

theorem lst_all {k N : Nat} (h : k < N) : lst N k = (k : Int) + 1 := by simp [lst, h]

theorem put_ready {w wr : World} {B N k : Nat} (h : IC w wr B N k) (hk : k < N) (hb : k ≤ 65536) :
    Calls Try.prog 21 #[.pointer (some ⟨B + 2 + 2 * k, 0, none⟩), .string ⟨#[107]⟩, .int .u32 (k : Int)] (wr.setCell ⟨B + 2 + 2 * k, 2, none⟩ (.int .u32 ((k : Int) + 1)))
      fun e w' => e = .returned (.tuple #[]) ∧ w'.ownsMap Try.prog 9 (plainElem Try.prog 22) (B + 1 + 2 * k) 1 (D1 (k : Int)) ∧ (wr.setCell ⟨B + 2 + 2 * k, 2, none⟩ (.int .u32 ((k : Int) + 1))).grownBy w' (some (B + 1 + 2 * k)) := by
  refine put_any _ _ _ _ _ (WalkArith.wf_u32 (by omega)) (val_set wr _ _ _ _ (h.2.1 k hk)) ?_
  obtain ⟨es, clock, hh, r⟩ := h.2.2.2.1 k hk (Nat.le_refl _)
  exact ⟨es, clock, by rw [Below.heap_setCell _ _ _ _ (by show B + 1 + 2 * k ≠ B + 2 + 2 * k; omega)]; exact hh, r⟩

set_option maxHeartbeats 1000000 in
theorem iwalk_in (n : Nat) (hn : n ≤ 65536) (w : World) :
    Calls Try.prog 8 #[.int .i64 n] w fun e w' => e = .returned (.bool true) ∧ Below w.heap.size w w' := by
  have hlen : (((n : Int) + 1) != (n : Int) + 1) = false := by simp
  go_enter Try.func8, Try.ntmps8
  go_wp2_with (go_at_call 18; refine (znew_any n hn _).mono ?_; rintro e w1 ⟨rfl, hnc⟩)
  go_loopw [4] (fun i wr => ∃ k : Nat, k ≤ n + 1 ∧ i = .int .i64 k ∧ IC w wr w.heap.size (n + 1) k) (fun i _ => n + 1 - (intOf i).toNat)
  case atStart => exact ⟨0, by omega, rfl, ic_start hnc⟩
  case round =>
    clear hnc
    obtain ⟨k, hk, rfl, hr⟩ := hrel
    by_cases hlt : k < n + 1
    · have c0 := hr.1 k hlt
      have s0 := hr.2.1 k hlt
      have HR : Hid (IC w wr w.heap.size (n + 1) k) := hr
      have hsz : w.heap.size < w.heap.size + 2 + 2 * k := by omega
      clear hr
      have hput := put_ready HR.out hlt (by omega)
      go_wp2_with (first | (go_at_call 20; refine (setLast_any _ _ _ _ _ s0).mono ?_; rintro e w' ⟨rfl, rfl⟩) | (go_at_call 21; refine hput.mono ?_; rintro e w2 ⟨rfl, hown, hgrow⟩))
      have R := ic_step HR.out hlt hown hgrow
      clear hown hgrow s0 c0 hput
      go_roundw
      case rel => exact ⟨k + 1, by omega, by go_num, R⟩
      case measure => simp [intOf]; omega
    · have e1 : k = n + 1 := by omega
      rw [e1] at hr
      have HR : Hid (IC w wr w.heap.size (n + 1) (n + 1)) := hr
      clear hr e1
      go_wp2
      go_loopw [5] (fun i wr => ∃ k : Nat, k ≤ n + 1 ∧ i = .int .i64 k ∧ IC w wr w.heap.size (n + 1) (n + 1)) (fun i _ => n + 1 - (intOf i).toNat)
      case atStart => exact ⟨0, by omega, rfl, HR.out⟩
      case round =>
        clear HR
        clear hlt hk
        obtain ⟨k, hk, rfl, hr⟩ := hrel
        by_cases hlt : k < n + 1
        · have c0 := hr.1 k hlt
          have s0 := hr.2.1 k hlt
          have m0 := hr.2.2.1 k hlt hlt
          rw [lst_all hlt] at s0
          have HR : Hid (IC w wr w.heap.size (n + 1) (n + 1)) := hr
          have hsh := shape_any wr _ _ 1 _ _ s0 m0
          rw [size_D1] at hsh
          have hge := fun d => get_any (wr.drewN d) _ _ _ _ s0 m0
          clear hr s0 m0
          go_wp2_with (first | (go_at_call 19; refine hsh.mono ?_; rintro e w' ⟨d, rfl, rfl⟩) | (go_at_call 22; refine (hge _).mono ?_; rintro e w' ⟨rfl, rfl⟩))
          go_roundw
          case rel => exact ⟨k + 1, by omega, by go_num, ic_drewN HR.out d⟩
          case measure => simp [intOf]; omega
        · have HB : Hid (Below w.heap.size w wr) := hr.2.2.2.2.1
          clear hr
          go_wp2
          go_ret
          exact ⟨rfl, HB.out⟩
end Go.Proofs.Qxb6001704a.colWalks
