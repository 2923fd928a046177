import Derived.Test.Qxb6001701aRows
import Derived.WalkKit
import Derived.ProofKit
import Derived.WalkSpells
import Derived.WalkLawsBesides
import Derived.Deep.RegionHeld3
import Derived.Deep.QuietTactic
import Derived.BigQuiet
namespace Go.Proofs.Qxb6001701a.digitsWalks
open Go.ChangeShapes Go.WideShapes Go.ChangeAt Go.RowKit

/-- Is there a digit at place k? -/
def Dig (s : ByteArray) (k : Nat) : Prop := ∃ h : k < s.size, 48 ≤ ((s[k]'h).toNat : Int) ∧ ((s[k]'h).toNat : Int) ≤ 57

/-- m is where the run of digits from p ends. -/
def RunEnd (s : ByteArray) (p m : Nat) : Prop := p ≤ m ∧ m ≤ s.size ∧ (∀ i, p ≤ i → i < m → Dig s i) ∧ ¬ Dig s m

theorem more {s : ByteArray} {p k : Nat} (h : ∀ i, p ≤ i → i < k → Dig s i) (hk : Dig s k) : ∀ i, p ≤ i → i < k + 1 → Dig s i := by
  intro i h1 h2
  by_cases e : i = k
  · subst e; exact hk
  · exact h i h1 (by omega)

set_option maxHeartbeats 1000000 in
theorem digits_any (s : ByteArray) (p b : Nat) (w : World) (hs : s.size ≤ 1048576) (hp : p ≤ s.size) (c0 : w.cell? ⟨b, 0, none⟩ = some (.string s)) (c1 : w.cell? ⟨b, 1, none⟩ = some (.int .i64 p)) (hf : w.frozen? ⟨b, 1, none⟩ = false) :
    Calls Try.prog 22 #[.pointer (some ⟨b, 0, none⟩)] w fun e w' => ∃ m c : Nat, RunEnd s p m ∧ m = p + c ∧ e = .returned (.int .i64 c) ∧ w'.cell? ⟨b, 1, none⟩ = some (.int .i64 m) ∧ Below b w w' := by
  go_enter Try.func22, Try.ntmps22
  go_wp2
  go_loopw [3] (fun n wr => ∃ k c : Nat, Hid (k = p + c) ∧ k ≤ s.size ∧ n = .int .i64 c ∧ (∀ i, p ≤ i → i < k → Dig s i) ∧ wr.cell? ⟨b, 0, none⟩ = some (.string s) ∧ wr.cell? ⟨b, 1, none⟩ = some (.int .i64 k) ∧ wr.frozen? ⟨b, 1, none⟩ = false ∧ Below b w wr) (fun n _ => 1048577 - (intOf n).toNat)
  case atStart => exact ⟨p, 0, rfl, hp, rfl, fun i h1 h2 => by omega, c0, c1, hf, Below.refl _ _⟩
  case round =>
    clear c0 c1 hf
    obtain ⟨k, c, HK, hk, rfl, hall, c0, c1, hf, hB⟩ := hrel
    have HA : Hid (∀ i, p ≤ i → i < k → Dig s i) := hall
    have hck : c ≤ k := by have := HK.out; omega
    clear hall
    by_cases hlt : k < s.size
    · by_cases h48 : 48 ≤ ((s[k]'hlt).toNat : Int)
      · by_cases h57 : ((s[k]'hlt).toNat : Int) ≤ 57
        · go_wp2
          go_region_held3 (fun w' => w'.cell? ⟨b, 0, none⟩ = some (.string s) ∧ w'.cell? ⟨b, 1, none⟩ = some (.int .i64 k)) (go_keep) (fail)
          go_wp2
          go_roundw
          case rel => exact ⟨k + 1, c + 1, by have := HK.out; show _ = _; omega, by omega, by go_num, more HA.out ⟨hlt, h48, h57⟩, by simp [go_sem, c0], by simp [go_sem, c1], by simp [go_sem, hf], (hB.drew).setCell (Nat.le_refl _) _⟩
          case measure => simp [intOf]; omega
        · have hnd : Hid (¬ Dig s k) := fun h => h57 h.2.2
          have hd : decide (((s[k]'hlt).toNat : Int) ≤ 57) = false := by simpa using h57
          go_wp2
          go_quiet ((fail))
          go_wp2
          go_ret
          exact ⟨k, c, ⟨by have := HK.out; omega, hk, HA.out, hnd.out⟩, HK.out, rfl, by simpa using c1, ⟨hB.os, hB.tape, hB.output, hB.size, hB.block⟩⟩
      · have hnd : Hid (¬ Dig s k) := fun h => h48 h.2.1
        have hd : decide (48 ≤ ((s[k]'hlt).toNat : Int)) = false := by simpa using h48
        go_wp2
        go_quiet ((fail))
        go_wp2
        go_ret
        exact ⟨k, c, ⟨by have := HK.out; omega, hk, HA.out, hnd.out⟩, HK.out, rfl, by simpa using c1, ⟨hB.os, hB.tape, hB.output, hB.size, hB.block⟩⟩
    · have hnd : Hid (¬ Dig s k) := fun h => hlt h.1
      go_wp2
      go_quiet ((fail))
      go_wp2
      go_ret
      exact ⟨k, c, ⟨by have := HK.out; omega, hk, HA.out, hnd.out⟩, HK.out, rfl, by simpa using c1, ⟨hB.os, hB.tape, hB.output, hB.size, hB.block⟩⟩
end Go.Proofs.Qxb6001701a.digitsWalks
