import Derived.Test.Qxb6603097aRows
import Derived.WalkKit
import Derived.ProofKit
import Derived.WalkSpells
import Derived.WalkLawsBesides
import Derived.Deep.RegionHeld3
import Derived.Deep.QuietTactic
import Derived.BigQuiet
namespace Go.Proofs.Qxb6603097a.filterWalks
open Go.ChangeShapes Go.WideShapes Go.ChangeAt Go.RowKit

/-! ### A slice of strings, as the walks meet it -/
def StrAt (w : World) (ao : Option Addr) (n : Nat) (V : Nat → ByteArray) : Prop :=
  ∃ g, (0 < n → ao = some ⟨g, 0, none⟩) ∧ ∀ j, j < n → w.cell? ⟨g, j, none⟩ = some (.string (V j))

def eqB (V : Nat → ByteArray) (v : ByteArray) : Nat → Bool
  | 0 => false
  | n + 1 => eqB V v n || (v.toList == (V n).toList)
def neB (V : Nat → ByteArray) (v : ByteArray) : Nat → Bool
  | 0 => false
  | n + 1 => neB V v n || !((V n).toList == v.toList)

theorem eqB_of {V : Nat → ByteArray} {v : ByteArray} {k n : Nat} (h : (v.toList == (V k).toList) = true) (hk : k < n) : eqB V v n = true := by
  induction n with
  | zero => omega
  | succ n ih =>
    unfold eqB
    by_cases e : k = n
    · subst e; rw [h]; simp
    · rw [ih (by omega)]; simp
theorem neB_of {V : Nat → ByteArray} {v : ByteArray} {k n : Nat} (h : ((V k).toList == v.toList) = false) (hk : k < n) : neB V v n = true := by
  induction n with
  | zero => omega
  | succ n ih =>
    unfold neB
    by_cases e : k = n
    · subst e; rw [h]; simp
    · rw [ih (by omega)]; simp

/-! ### slices.Index, slices.Contains over strings -/
set_option maxHeartbeats 400000 in
theorem index_any (w : World) (ao : Option Addr) (n cap : Nat) (V : Nat → ByteArray) (v : ByteArray) (hn : n ≤ 1048576) (h : StrAt w ao n V) :
    Calls Try.prog 43 #[.slice ao n cap, .string v] w fun e w' => ∃ r : Int, e = .returned (.int .i64 r) ∧ decide (0 ≤ r) = eqB V v n ∧ w = w' := by
  obtain ⟨g, h1, h2⟩ := h
  by_cases h0 : n = 0
  · subst h0
    go_enter Try.func43, Try.ntmps43
    go_wp2
    refine wp_loop_rounds 1 ?_
    rw [rounds_succ]
    go_wp2
    go_ret
    exact ⟨_, rfl, rfl, rfl⟩
  · obtain rfl := h1 (by omega)
    clear h1
    go_enter Try.func43, Try.ntmps43
    go_wp2
    go_loop [8] (fun i => ∃ k : Nat, k ≤ n ∧ i = .int .i64 k ∧ eqB V v k = false) (fun i => n - (intOf i).toNat)
    case atStart => exact ⟨0, by omega, rfl, rfl⟩
    case round =>
      obtain ⟨k, hk, rfl, hE⟩ := hrel
      have HE : Hid (eqB V v k = false) := hE
      clear hE
      by_cases hlt : k < n
      · have c0 := h2 k hlt
        have H2 : Hid (∀ j, j < n → w.cell? ⟨g, j, none⟩ = some (.string (V j))) := h2
        clear h2
        cases hq : (v.toList == (V k).toList)
        · go_wp2
          go_round
          case rel => exact ⟨k + 1, by omega, by go_num, by rw [eqB, HE.out, hq]; rfl⟩
          case measure => simp [intOf]; omega
        · go_wp2
          go_ret
          exact ⟨_, rfl, by rw [eqB_of hq hlt]; simp, rfl⟩
      · clear h2
        go_wp2
        go_ret
        have e1 : k = n := by omega
        subst e1
        exact ⟨_, rfl, by rw [HE.out]; rfl, rfl⟩
theorem contains_any (w : World) (ao : Option Addr) (n cap : Nat) (V : Nat → ByteArray) (v : ByteArray) (hn : n ≤ 1048576) (h : StrAt w ao n V) :
    Calls Try.prog 37 #[.slice ao n cap, .string v] w fun e w' => e = .returned (.bool (eqB V v n)) ∧ w = w' := by
  go_enter Try.func37, Try.ntmps37
  go_wp2_with (go_at_call 43; refine (index_any _ _ _ _ V _ hn h).mono ?_; rintro e w' ⟨r, rfl, hr, rfl⟩)
  go_ret
  exact ⟨rfl, rfl⟩

/-! ### The closure that 'holds' hands to slices.ContainsFunc -/
theorem closure_any (w : World) (s v : ByteArray) (Fb F : Nat) (c0 : w.cell? ⟨Fb, 0, none⟩ = some (.pointer (some ⟨F, 0, none⟩))) (c1 : w.cell? ⟨F, 3, none⟩ = some (.string v)) :
    Calls Try.prog 39 #[.string s, .pointer (some ⟨Fb, 0, none⟩)] w fun e w' => e = .returned (.bool (!(s.toList == v.toList))) ∧ w = w' := by
  go_enter Try.func39, Try.ntmps39
  go_wp2
  go_ret
  exact ⟨rfl, rfl⟩

abbrev fnVal (Fb : Nat) : Value := .func (.func 39) #[] #[.pointer (some ⟨Fb, 0, none⟩)]

set_option maxHeartbeats 400000 in
theorem indexFunc_any (w : World) (ao : Option Addr) (n cap : Nat) (V : Nat → ByteArray) (v : ByteArray) (Fb F : Nat) (hn : n ≤ 1048576) (h : StrAt w ao n V)
    (c0 : w.cell? ⟨Fb, 0, none⟩ = some (.pointer (some ⟨F, 0, none⟩))) (c1 : w.cell? ⟨F, 3, none⟩ = some (.string v)) :
    Calls Try.prog 44 #[.slice ao n cap, fnVal Fb] w fun e w' => ∃ r : Int, e = .returned (.int .i64 r) ∧ decide (0 ≤ r) = neB V v n ∧ w = w' := by
  obtain ⟨g, h1, h2⟩ := h
  by_cases h0 : n = 0
  · subst h0
    go_enter Try.func44, Try.ntmps44
    go_wp2
    refine wp_loop_rounds 1 ?_
    rw [rounds_succ]
    go_wp2
    go_ret
    exact ⟨_, rfl, rfl, rfl⟩
  · obtain rfl := h1 (by omega)
    clear h1
    go_enter Try.func44, Try.ntmps44
    go_wp2
    go_loopw [8] (fun i wr => ∃ k : Nat, k ≤ n ∧ i = .int .i64 k ∧ neB V v k = false ∧ w = wr) (fun i _ => n - (intOf i).toNat)
    case atStart => exact ⟨0, by omega, rfl, rfl, rfl⟩
    case round =>
      obtain ⟨k, hk, rfl, hE, rfl⟩ := hrel
      have HE : Hid (neB V v k = false) := hE
      clear hE
      by_cases hlt : k < n
      · have d0 := h2 k hlt
        have H2 : Hid (∀ j, j < n → w.cell? ⟨g, j, none⟩ = some (.string (V j))) := h2
        clear h2
        cases hq : ((V k).toList == v.toList)
        · go_wp2_with (go_at_call 39; refine (closure_any _ _ v _ F c0 c1).mono ?_; rintro e w' ⟨rfl, rfl⟩)
          go_ret
          exact ⟨_, rfl, by rw [neB_of hq hlt]; simp, rfl⟩
        · go_wp2_with (go_at_call 39; refine (closure_any _ _ v _ F c0 c1).mono ?_; rintro e w' ⟨rfl, rfl⟩)
          go_roundw
          case rel => exact ⟨k + 1, by omega, by go_num, by rw [neB, HE.out, hq]; rfl, by first | rfl | trivial⟩
          case measure => simp [intOf]; omega
      · clear h2
        go_wp2
        go_ret
        have e1 : k = n := by omega
        subst e1
        exact ⟨_, rfl, by rw [HE.out]; rfl, rfl⟩
theorem containsFunc_any (w : World) (ao : Option Addr) (n cap : Nat) (V : Nat → ByteArray) (v : ByteArray) (Fb F : Nat) (hn : n ≤ 1048576) (h : StrAt w ao n V)
    (c0 : w.cell? ⟨Fb, 0, none⟩ = some (.pointer (some ⟨F, 0, none⟩))) (c1 : w.cell? ⟨F, 3, none⟩ = some (.string v)) :
    Calls Try.prog 38 #[.slice ao n cap, fnVal Fb] w fun e w' => e = .returned (.bool (neB V v n)) ∧ w = w' := by
  go_enter Try.func38, Try.ntmps38
  go_wp2_with (go_at_call 44; refine (indexFunc_any _ _ _ _ V v _ F hn h c0 c1).mono ?_; rintro e w' ⟨r, rfl, hr, rfl⟩)
  go_ret
  exact ⟨rfl, rfl⟩
end Go.Proofs.Qxb6603097a.filterWalks
