import Derived.Test.Qxb6603097aMain
import Derived.OpenShut
import Derived.ShutString
import Derived.ChangeOld
import Derived.Below
import Derived.Deep.SlicePairs
import Derived.Deep.Strs
namespace Go.Proofs.Qxb6603097a.filterWalks
open Go.ChangeShapes Go.WideShapes Go.ChangeAt Go.RowKit Go.Deep

section
variable {H : Type} {enc : TypeId × Value → H} {w : World} {base : Nat} {spare : Nat → Bool} {held : Bool}

theorem cells9 : Try.prog.cellsOf 9 = 1 := by kernel_rfl
theorem cells5 : Try.prog.cellsOf 5 = 1 := by kernel_rfl
theorem cells43 : Try.prog.cellsOf 43 = 1 := by kernel_rfl
theorem cells67 : Try.prog.cellsOf 67 = 2 := by kernel_rfl

theorem at_plain {a : Addr} {v : Value} (h : w.cell? a = some v) : a = ⟨a.block, a.off, none⟩ := by
  obtain ⟨b, off, spot⟩ := a
  have := World.cell?_spot h
  simp at this
  rw [this]
theorem add_form {b o : Nat} (i : Nat) : (⟨b, o, none⟩ : Addr).add i = ⟨b, o + i, none⟩ := Go.WideShapes.add_plain ..

/-- A slice of strings, out of its reading. -/
theorem strIn_of {fuel : Nat} {v : Value} {x : DataW H × List MemPlace} (h : DataW.trod enc Try.prog w base spare held fuel 43 [v] = some x) : ∃ a l c, v = .slice a l c ∧ l ≤ maxLen ∧ StrIn w a l := by
  rcases open_strs Try.underlying43 Try.underlying9 cells9 h with ⟨hcs, _⟩ | ⟨a, len, cap, m, Sx, hcs, _, hl, hm, hmm, _, hx⟩
  · simp at hcs
    exact ⟨none, 0, 0, hcs, Nat.zero_le _, fun _ => rfl, 0, 0, fun h => by omega, fun j hj => by omega⟩
  · simp at hcs
    have hlm : len ≤ m := by rw [hmm]; split <;> omega
    refine ⟨some a, len, cap, hcs, by omega, fun h => by simp at h, a.block, a.off, fun h0 => ?_, fun j hj => ?_⟩
    · have h1 := (hx 0 (by omega)).1
      rw [show a.add 0 = a from rfl] at h1
      rw [← at_plain h1]
    · have h1 := (hx 0 (by omega)).1
      rw [show a.add 0 = a from rfl] at h1
      obtain ⟨h2, h3⟩ := hx j (by omega)
      rw [at_plain h1, add_form] at h2
      exact ⟨Sx j, h2, h3⟩

/-- A slice of headers, out of its reading. -/
theorem hdrIn_of {fuel : Nat} {v : Value} {x : DataW H × List MemPlace} (h : DataW.trod enc Try.prog w base spare held fuel 23 [v] = some x) : ∃ a l c, v = .slice a l c ∧ l ≤ maxLen ∧ HdrIn w a l := by
  rcases open_slice_pairs Try.underlying23 Try.underlying67 cells67 rfl rfl cells9 cells43 h with ⟨hcs, _⟩ | ⟨a, len, cap, m, n, V0, V1, D0, D1, P0, P1, hcs, _, hl, hm, hmm, _, hx⟩
  · simp at hcs
    exact ⟨none, 0, 0, hcs, Nat.zero_le _, fun _ => rfl, 0, 0, fun h => by omega, fun j hj => by omega⟩
  · simp at hcs
    have hlm : len ≤ m := by rw [hmm]; split <;> omega
    refine ⟨some a, len, cap, hcs, by omega, fun h => by simp at h, a.block, a.off, fun h0 => ?_, fun i hi => ?_⟩
    · have h1 := (hx 0 (by omega)).1
      rw [show a.add (0 * 2) = a from rfl] at h1
      rw [← at_plain h1]
    · have h1 := (hx 0 (by omega)).1
      rw [show a.add (0 * 2) = a from rfl] at h1
      obtain ⟨h2, h3, t0, t1⟩ := hx i (by omega)
      rw [at_plain h1, add_form] at h2 h3
      obtain ⟨key, k1, _, k3⟩ := DataW.trod_string Try.underlying9 t0
      obtain ⟨sa, sl, sc, k4, k5, k6⟩ := strIn_of t1
      simp at k1
      rw [k1] at h2
      rw [k4] at h3
      exact ⟨key, sa, sl, sc, h2, h3, k3, k5, k6⟩

/-- A slice of bytes, out of its reading. -/
theorem bytIn_of {fuel : Nat} {v : Value} {x : DataW H × List MemPlace} (h : DataW.trod enc Try.prog w base spare held fuel 22 [v] = some x) : ∃ a l c, v = .slice a l c ∧ l ≤ maxLen ∧ BytIn w a l := by
  rcases open_slice1 Try.underlying22 cells5 h with ⟨hcs, _⟩ | ⟨a, len, cap, m, n, V, D, Pl, hcs, _, hl, hm, hmm, _, hx⟩
  · simp at hcs
    exact ⟨none, 0, 0, hcs, Nat.zero_le _, fun _ => rfl, 0, 0, fun h => by omega, fun j hj => by omega⟩
  · simp at hcs
    have hlm : len ≤ m := by rw [hmm]; split <;> omega
    refine ⟨some a, len, cap, hcs, by omega, fun h => by simp at h, a.block, a.off, fun h0 => ?_, fun j hj => ?_⟩
    · have h1 := (hx 0 (by omega)).1
      rw [show a.add 0 = a from rfl] at h1
      rw [← at_plain h1]
    · have h1 := (hx 0 (by omega)).1
      rw [show a.add 0 = a from rfl] at h1
      obtain ⟨h2, h3⟩ := hx j (by omega)
      rw [at_plain h1, add_form] at h2
      obtain ⟨z, k1, _, _⟩ := DataW.trod_int Try.underlying5 h3
      simp at k1
      rw [k1] at h2
      exact ⟨z, h2⟩
end
end Go.Proofs.Qxb6603097a.filterWalks
