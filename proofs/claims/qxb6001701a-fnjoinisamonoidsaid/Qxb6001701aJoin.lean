import Derived.Test.Qxb6001701aRows
import Derived.WalkKit
import Derived.ProofKit
import Derived.OpenShut
import Derived.ShutString
import Derived.WalkSpells
import Derived.WalkLawsBesides
namespace Go.Proofs.Qxb6001701a.joinWalks
open Go.ChangeShapes Go.WideShapes Go.ChangeAt Go.RowKit

/-! ### The plain function, and its laws -/
def J (a b : ByteArray) : ByteArray := if a.toList.isEmpty = true then b else if b.toList.isEmpty = true then a else a ++ ⟨#[46]⟩ ++ b

theorem J_e (a b : ByteArray) (h : a.toList.isEmpty = true) : J a b = b := by simp [J, h]
theorem J_k (a b : ByteArray) (h : a.toList.isEmpty = false) (hb : b.toList.isEmpty = true) : J a b = a := by simp [J, h, hb]
theorem J_j (a b : ByteArray) (h : a.toList.isEmpty = false) (hb : b.toList.isEmpty = false) : J a b = a ++ ⟨#[46]⟩ ++ b := by simp [J, h, hb]
theorem empty_of (a : ByteArray) (h : a.toList.isEmpty = true) : a = ⟨#[]⟩ := by
  rcases a with ⟨⟨l⟩⟩; simp [ByteArray.toList_eq] at h; subst h; rfl
theorem isEmpty_nil : (ByteArray.mk #[]).toList.isEmpty = true := by simp [ByteArray.toList_eq]
theorem J_right (a : ByteArray) : J a ⟨#[]⟩ = a := by
  cases h : a.toList.isEmpty
  · exact J_k _ _ h isEmpty_nil
  · rw [J_e _ _ h, empty_of a h]
theorem data_app (a b : ByteArray) : (a ++ b).data = a.data ++ b.data := by simp
theorem isEmpty_mid (a b : ByteArray) : (a ++ ⟨#[46]⟩ ++ b).toList.isEmpty = false := by
  simp [ByteArray.toList_eq]
theorem J_empty (a b : ByteArray) : (J a b).toList.isEmpty = (a.toList.isEmpty && b.toList.isEmpty) := by
  cases ha : a.toList.isEmpty
  · cases hb : b.toList.isEmpty
    · rw [J_j _ _ ha hb, isEmpty_mid]; rfl
    · rw [J_k _ _ ha hb, ha]; rfl
  · rw [J_e _ _ ha]; simp
theorem size_app (a b : ByteArray) : (a ++ b).size = a.size + b.size := by simp
theorem J_size_ge (a b : ByteArray) : a.size ≤ (J a b).size := by
  cases ha : a.toList.isEmpty
  · cases hb : b.toList.isEmpty
    · rw [J_j _ _ ha hb]; simp; omega
    · rw [J_k _ _ ha hb]; omega
  · rw [empty_of _ ha]; exact Nat.zero_le _
theorem J_size_le (a b : ByteArray) : (J a b).size ≤ a.size + 1 + b.size := by
  cases ha : a.toList.isEmpty
  · cases hb : b.toList.isEmpty
    · rw [J_j _ _ ha hb, size_app, size_app]; exact Nat.le_refl _
    · rw [J_k _ _ ha hb]; omega
  · rw [J_e _ _ ha]; omega
theorem ext_bytes {a b : ByteArray} (h : a.data.toList = b.data.toList) : a = b := by
  rcases a with ⟨⟨l⟩⟩; rcases b with ⟨⟨m⟩⟩; simp at h; subst h; rfl
theorem J_pre (a b : ByteArray) : (J a b).extract 0 a.size = a := by
  cases ha : a.toList.isEmpty
  · cases hb : b.toList.isEmpty
    · rw [J_j _ _ ha hb]; apply ext_bytes; rw [ByteArray.data_extract, Array.toList_extract, data_app, data_app]; simp [List.extract]
    · rw [J_k _ _ ha hb]; simp
  · rw [empty_of _ ha]; apply ext_bytes; rw [ByteArray.data_extract, Array.toList_extract]; simp [List.extract, ByteArray.size]
theorem J_assoc (a b c : ByteArray) : J (J a b) c = J a (J b c) := by
  cases ha : a.toList.isEmpty
  · cases hb : b.toList.isEmpty
    · cases hc : c.toList.isEmpty
      · rw [J_j b c hb hc, J_j a b ha hb, J_j _ _ (isEmpty_mid _ _) hc, J_j _ _ ha (isEmpty_mid _ _)]
        simp [ByteArray.append_assoc]
      · rw [empty_of _ hc, J_right, J_right]
    · rw [empty_of _ hb, J_right, J_e _ _ isEmpty_nil]
  · rw [J_e _ _ ha, J_e _ _ ha]

/-! ### The walks of 'join' and of its exported name -/
theorem join_any (a b : ByteArray) (w : World) (h1 : a.size ≤ 2000000) (h2 : b.size ≤ 2000000) :
    Calls Try.prog 20 #[.string a, .string b] w fun e w' => e = .returned (.string (J a b)) ∧ w' = w := by
  cases ha : a.toList.isEmpty
  · cases hb : b.toList.isEmpty
    · rw [J_j _ _ ha hb]
      go_enter Try.func20, Try.ntmps20
      go_wp2
      go_ret
      exact ⟨rfl, rfl⟩
    · rw [J_k _ _ ha hb]
      go_enter Try.func20, Try.ntmps20
      go_wp2
      go_ret
      exact ⟨rfl, rfl⟩
  · rw [J_e _ _ ha]
    go_enter Try.func20, Try.ntmps20
    go_wp2
    go_ret
    exact ⟨rfl, rfl⟩
theorem zzjoin_any (a b : ByteArray) (w : World) (h1 : a.size ≤ 2000000) (h2 : b.size ≤ 2000000) :
    Calls Try.prog 9 #[.string a, .string b] w fun e w' => e = .returned (.string (J a b)) ∧ w' = w := by
  go_enter Try.func9, Try.ntmps9
  go_wp2_with (go_at_call 20; refine (join_any _ _ _ h1 h2).mono ?_; rintro e w' ⟨rfl, rfl⟩)
  go_ret
  exact ⟨rfl, rfl⟩
theorem zzjoin_left (a : ByteArray) (w : World) (h1 : a.size ≤ 2000000) :
    Calls Try.prog 9 #[.string ⟨#[]⟩, .string a] w fun e w' => e = .returned (.string a) ∧ w' = w := by
  have h := zzjoin_any ⟨#[]⟩ a w (by show 0 ≤ _; omega) h1
  rwa [J_e _ _ isEmpty_nil] at h
theorem zzjoin_right (a : ByteArray) (w : World) (h1 : a.size ≤ 2000000) :
    Calls Try.prog 9 #[.string a, .string ⟨#[]⟩] w fun e w' => e = .returned (.string a) ∧ w' = w := by
  have h := zzjoin_any a ⟨#[]⟩ w h1 (by show 0 ≤ _; omega)
  rwa [J_right] at h

/-! ### The bound on the lengths -/
theorem bytes_yes (a b c : ByteArray) (w : World) (h : a.size + b.size + c.size ≤ 1048576) :
    Calls Try.prog 8 #[.string a, .string b, .string c] w fun e w' => e = .returned (.bool true) ∧ w' = w := by
  go_enter Try.func8, Try.ntmps8
  go_wp2
  go_ret
  exact ⟨rfl, rfl⟩
theorem bytes_no (a b c : ByteArray) (w : World) (w0 : a.size ≤ maxLen) (w1 : b.size ≤ maxLen) (w2 : c.size ≤ maxLen) (h : 1048576 < a.size + b.size + c.size) :
    Calls Try.prog 8 #[.string a, .string b, .string c] w fun e w' => e = .returned (.bool false) ∧ w' = w := by
  unfold maxLen at w0 w1 w2
  go_enter Try.func8, Try.ntmps8
  go_wp2
  all_goals
    go_ret
    exact ⟨rfl, rfl⟩
end Go.Proofs.Qxb6001701a.joinWalks
