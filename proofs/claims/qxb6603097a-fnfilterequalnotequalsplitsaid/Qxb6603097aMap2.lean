import Derived.Test.Qxb6603097aMap
namespace Go.Proofs.Qxb6603097a.filterWalks
open Go.ChangeShapes Go.WideShapes Go.ChangeAt Go.RowKit Go.Maps

def MapRes (w : World) (n : Nat) (K : Nat → ByteArray) (A : Nat → Option Addr) (L C : Nat → Nat) (e : Ending) (w' : World) : Prop := ∃ r, e = .returned (.map r) ∧ Gives w' (.map r) n K A L C ∧ Below w.heap.size w w'

set_option maxHeartbeats 1000000 in
theorem toMap_any (w : World) (ao : Option Addr) (n cap g : Nat) (K : Nat → ByteArray) (A : Nat → Option Addr) (L C : Nat → Nat) (hn : n ≤ 1048576) (h : HdrFn w ao n g K A L C) :
    Calls Try.prog 12 #[.slice ao n cap] w fun e w' => MapRes w n K A L C e w' := by
  have hnil := nil23
  have hmm := @run_makeMap Try.prog
  obtain ⟨h0, h1, h2⟩ := h
  cases ao with
  | none =>
    obtain rfl := h0 rfl
    go_enter Try.func12, Try.ntmps12
    go_wp2
    go_ret
    exact ⟨_, rfl, gives_nil _ _ _ _ _, Below.refl _ _⟩
  | some x =>
    clear h0
    by_cases hz : n = 0
    · subst hz
      go_enter Try.func12, Try.ntmps12
      go_wp2
      refine wp_loop_rounds 1 ?_
      rw [rounds_succ]
      go_wp2
      go_ret
      exact ⟨_, rfl, gives_own (World.ownsMap_made w Try.prog 9 R), (Below.refl _ _).alloc (Nat.le_refl _) _⟩
    have e : x = ⟨g, 0, none⟩ := by have := h1 (by omega); simpa using this
    subst e
    clear h1 hz
    go_enter Try.func12, Try.ntmps12
    go_wp2
    go_loopw [4] (fun i wr => ∃ k : Nat, k ≤ n ∧ i = .int .i64 k ∧ wr.ownsMap Try.prog 9 R w.heap.size k (Dm K A L C k) ∧ Below w.heap.size w wr) (fun i _ => n - (intOf i).toNat)
    case atStart => exact ⟨0, by omega, rfl, World.ownsMap_made w Try.prog 9 R, (Below.refl _ _).alloc (Nat.le_refl _) _⟩
    case round =>
      obtain ⟨k, hk, rfl, hown, hB⟩ := hrel
      by_cases hlt : k < n
      · obtain ⟨a1, a2, hkey, _, _⟩ := h2 k hlt
        have hgw : g < w.heap.size := lt_of_cell a1
        have c0 : wr.cell? ⟨g, k * 2, none⟩ = some (.string (K k)) := by rw [hB.cell hgw]; exact a1
        have c1 : wr.cell? ⟨g, k * 2 + 1, none⟩ = some (.slice (A k) (L k) (C k)) := by rw [hB.cell hgw]; exact a2
        obtain ⟨w2, hrun, hown2, hg2⟩ := World.ownsMap.update (w := wr.drew) (t := 30) (e := 43) hown law Try.underlying30 (by unfold maxLen; omega) (key_of hkey) (show R (.slice (A k) (L k) (C k)) = some (.held (.slice (A k) (L k) (C k)), []) from rfl)
        have hgr : g < wr.heap.size := by have := hB.size; omega
        have k0 : w2.cell? ⟨g, k * 2, none⟩ = some (.string (K k)) := (World.cell?_of_block (w := wr) (hg2.block g hgr (by simp; omega))).trans c0
        have k1 : w2.cell? ⟨g, k * 2 + 1, none⟩ = some (.slice (A k) (L k) (C k)) := (World.cell?_of_block (w := wr) (hg2.block g hgr (by simp; omega))).trans c1
        have HO : Hid (w2.ownsMap Try.prog 9 R w.heap.size (k + 1) (Dm K A L C (k + 1))) := hown2
        have HB : Hid (Below w.heap.size w w2) := Below.grown hB.drew hg2 hB.size (fun i hi => by simp at hi; omega)
        clear hown2 hg2 hown h2 a1 a2
        have b1 : (0 : Int) ≤ (k : Int) := by omega
        have b2 : (k : Int) < (n : Int) := by omega
        go_wp2
        go_region_held3 (fun w' => w'.cell? ⟨g, k * 2, none⟩ = some (.string (K k)) ∧ w'.cell? ⟨g, k * 2 + 1, none⟩ = some (.slice (A k) (L k) (C k))) (go_keep) (fail)
        go_wp2
        go_roundw
        case rel => exact ⟨k + 1, by omega, by go_num, HO.out, HB.out⟩
        case measure => simp [intOf]; omega
      · have e1 : k = n := by omega
        rw [e1] at hown
        have HC := gives_own hown
        clear h2 hown e1
        go_wp2
        go_ret
        exact ⟨_, rfl, HC, hB⟩
end Go.Proofs.Qxb6603097a.filterWalks
