import Derived.Test.Qxb6603097aArgs
namespace Go.Proofs.Qxb6603097a.filterWalks
open Go.ChangeShapes Go.WideShapes Go.ChangeAt Go.RowKit Go.Maps
set_option linter.unusedVariables false

/-! ### The plain law of the two tests -/
theorem law0 (V : Nat → ByteArray) (v : ByteArray) : eqB V v 0 = false ∧ neB V v 0 = false := ⟨rfl, rfl⟩
theorem beq_comm (a b : ByteArray) : (a.toList == b.toList) = (b.toList == a.toList) := by
  rw [Bool.eq_iff_iff, beq_iff_eq, beq_iff_eq]
  exact ⟨Eq.symm, Eq.symm⟩
theorem law1 (V : Nat → ByteArray) (v : ByteArray) : eqB V v 1 = !neB V v 1 := by
  simp only [eqB, neB, Bool.false_or, Bool.not_not]
  exact beq_comm _ _
theorem law2 (V : Nat → ByteArray) (v : ByteArray) (l : Nat) (h : 2 ≤ l) : (eqB V v l || neB V v l) = true := by
  cases hq : ((V 0).toList == v.toList)
  · rw [neB_of hq (by omega : 0 < l)]; simp
  · rw [eqB_of (k := 0) (by rw [beq_comm]; exact hq) (by omega : 0 < l)]; simp

/-! ### The three calls -/
def ReqAt (W : World) (Q : Nat) (op role : Int) (ka : Option Addr) (kn kc : Nat) (m1 m2 : Option Nat) : Prop :=
  W.cell? ⟨Q, 0, none⟩ = some (.int .u8 op) ∧ W.cell? ⟨Q, 1, none⟩ = some (.int .u8 role) ∧ W.cell? ⟨Q, 2, none⟩ = some (.slice ka kn kc) ∧ W.cell? ⟨Q, 3, none⟩ = some (.map m1) ∧ W.cell? ⟨Q, 4, none⟩ = some (.map m2)
theorem reqAt_below {w w' : World} {Q : Nat} {op role : Int} {ka : Option Addr} {kn kc : Nat} {m1 m2 : Option Nat} (h : ReqAt w Q op role ka kn kc m1 m2) (hb : Below w.heap.size w w') : ReqAt w' Q op role ka kn kc m1 m2 := by
  obtain ⟨a, b, c, d, e⟩ := h
  refine ⟨?_, ?_, ?_, ?_, ?_⟩
  · rw [hb.cell (lt_of_cell a)]; exact a
  · rw [hb.cell (lt_of_cell b)]; exact b
  · rw [hb.cell (lt_of_cell c)]; exact c
  · rw [hb.cell (lt_of_cell d)]; exact d
  · rw [hb.cell (lt_of_cell e)]; exact e

abbrev reqObj (op role : Int) (ka : Option Addr) (kn kc : Nat) (m1 m2 : Option Nat) : Obj := .cells #[.int .u8 op, .int .u8 role, .slice ka kn kc, .map m1, .map m2] 33
abbrev filObj (h m : Int) (key val : ByteArray) : Obj := .cells #[.int .u8 h, .int .u8 m, .string key, .string val] 39

/-- The world ahead of the three calls. -/
abbrev W8 (w : World) (h op role : Int) (key val : ByteArray) (ka : Option Addr) (kn kc : Nat) (m1 m2 : Option Nat) : World :=
  (((((((w.alloc (reqObj op role ka kn kc m1 m2)).alloc (reqObj op role ka kn kc m1 m2)).alloc (filObj h 1 key val)).alloc (filObj h 1 key val)).alloc (filObj h 2 key val)).alloc (filObj h 2 key val)).alloc (filObj h 0 key val)).alloc (filObj h 0 key val)

def Ready (W : World) (B : Nat) (h op role : Int) (key val : ByteArray) (ka : Option Addr) (kn kc : Nat) (m1 m2 : Option Nat) : Prop :=
  FilAt W (B + 1 + 1 + 1) h 1 key val ∧ FilAt W (B + 1 + 1 + 1 + 1 + 1) h 2 key val ∧ FilAt W (B + 1 + 1 + 1 + 1 + 1 + 1 + 1) h 0 key val ∧ ReqAt W (B + 1) op role ka kn kc m1 m2

theorem ready_of (w : World) (h op role : Int) (key val : ByteArray) (ka : Option Addr) (kn kc : Nat) (m1 m2 : Option Nat) : Ready (W8 w h op role key val ka kn kc m1 m2) w.heap.size h op role key val ka kn kc m1 m2 :=
  ⟨⟨by simp [go_sem], by simp [go_sem], by simp [go_sem], by simp [go_sem]⟩, ⟨by simp [go_sem], by simp [go_sem], by simp [go_sem], by simp [go_sem]⟩, ⟨by simp [go_sem], by simp [go_sem], by simp [go_sem], by simp [go_sem]⟩,
    ⟨by simp [go_sem], by simp [go_sem], by simp [go_sem], by simp [go_sem], by simp [go_sem]⟩⟩
theorem w8_below (w : World) (h op role : Int) (key val : ByteArray) (ka : Option Addr) (kn kc : Nat) (m1 m2 : Option Nat) : Below w.heap.size w (W8 w h op role key val ka kn kc m1 m2) := by
  repeat (first | exact Below.refl _ _ | (refine Below.alloc ?_ (by simp; try omega) _))

def Call14 (W : World) (F : Nat) (op role : Int) (ka : Option Addr) (kn kc : Nat) (m1 m2 : Option Nat) (E : Bool) : Prop :=
  ∀ W', Below W.heap.size W W' → Calls Try.prog 14 #[.pointer (some ⟨F, 0, none⟩), reqVal op role ka kn kc m1 m2] W' fun e w' => e = .returned (.bool E) ∧ Below W'.heap.size W' w'

theorem below1 (w : World) (o : Obj) : Below w.heap.size w (w.alloc o) := (Below.refl _ _).alloc (Nat.le_refl _) _

section
variable {W : World} {F : Nat} {h m : Int} {key val : ByteArray} {op role : Int} {ka : Option Addr} {kn kc : Nat} {m1 m2 : Option Nat}

theorem call_svc (hf : FilAt W F 3 m key val) : Call14 W F op role ka kn kc m1 m2 true := fun W' hb =>
  zz_any W' F op role ka kn kc m1 m2 true fun o => holds_svc (W'.alloc o) F m key val op role ka kn kc m1 m2 (filAt_below (filAt_below hf hb) (below1 W' o))
theorem call_oth (hf : FilAt W F h m key val) (h1 : (h == 1) = false) (h2 : (h == 2) = false) (h3 : (h == 3) = false) : Call14 W F op role ka kn kc m1 m2 false := fun W' hb =>
  zz_any W' F op role ka kn kc m1 m2 false fun o => holds_oth (W'.alloc o) F h m key val op role ka kn kc m1 m2 (filAt_below (filAt_below hf hb) (below1 W' o)) h1 h2 h3

variable {n : Nat} {K : Nat → ByteArray} {A : Nat → Option Addr} {L C : Nat → Nat}

theorem later {W' : World} {mv : Value} (v : Gives W mv n K A L C) (hb : Below W.heap.size W W') (hk : key.size ≤ maxLen) (o : Obj) :
    ∀ wx, Below (W'.alloc o).heap.size (W'.alloc o) wx → (Instr.lookup 31 mv (.string key) false).run Try.prog wx = .ok (sliceOf (look K A L C key n)) wx :=
  gives_below (gives_below v hb) (below1 W' o) key hk

theorem call_obj0 {V : Nat → ByteArray} (hf : FilAt W F 2 0 key val) (hk : key.size ≤ maxLen) (v : Gives W (.map m1) n K A L C) (hl : (look K A L C key n).2.1 ≤ 1048576) (hs : StrAt W (look K A L C key n).1 (look K A L C key n).2.1 V) : Call14 W F op role ka kn kc m1 m2 false := fun W' hb =>
  zz_any W' F op role ka kn kc m1 m2 _ fun o => holds_obj0 (W'.alloc o) F key val op role ka kn kc m1 m2 _ _ (look K A L C key n).2.2 V (filAt_below (filAt_below hf hb) (below1 W' o)) hl (strAt_below (strAt_below hs hb) (below1 W' o)) (later v hb hk o)
theorem call_obj1 {V : Nat → ByteArray} (hf : FilAt W F 2 1 key val) (hk : key.size ≤ maxLen) (v : Gives W (.map m1) n K A L C) (hl : (look K A L C key n).2.1 ≤ 1048576) (hs : StrAt W (look K A L C key n).1 (look K A L C key n).2.1 V) : Call14 W F op role ka kn kc m1 m2 (eqB V val (look K A L C key n).2.1) := fun W' hb =>
  zz_any W' F op role ka kn kc m1 m2 _ fun o => holds_obj1 (W'.alloc o) F key val op role ka kn kc m1 m2 _ _ (look K A L C key n).2.2 V (filAt_below (filAt_below hf hb) (below1 W' o)) hl (strAt_below (strAt_below hs hb) (below1 W' o)) (later v hb hk o)
theorem call_obj2 {V : Nat → ByteArray} (hf : FilAt W F 2 2 key val) (hk : key.size ≤ maxLen) (v : Gives W (.map m1) n K A L C) (hl : (look K A L C key n).2.1 ≤ 1048576) (hs : StrAt W (look K A L C key n).1 (look K A L C key n).2.1 V) : Call14 W F op role ka kn kc m1 m2 (neB V val (look K A L C key n).2.1) := fun W' hb =>
  zz_any W' F op role ka kn kc m1 m2 _ fun o => holds_obj2 (W'.alloc o) F key val op role ka kn kc m1 m2 _ _ (look K A L C key n).2.2 V (filAt_below (filAt_below hf hb) (below1 W' o)) hl (strAt_below (strAt_below hs hb) (below1 W' o)) (later v hb hk o)
theorem call_req0 {V : Nat → ByteArray} (hf : FilAt W F 1 0 key val) (hk : key.size ≤ maxLen) (v : Gives W (.map m2) n K A L C) (hl : (look K A L C key n).2.1 ≤ 1048576) (hs : StrAt W (look K A L C key n).1 (look K A L C key n).2.1 V) : Call14 W F op role ka kn kc m1 m2 false := fun W' hb =>
  zz_any W' F op role ka kn kc m1 m2 _ fun o => holds_req0 (W'.alloc o) F key val op role ka kn kc m1 m2 _ _ (look K A L C key n).2.2 V (filAt_below (filAt_below hf hb) (below1 W' o)) hl (strAt_below (strAt_below hs hb) (below1 W' o)) (later v hb hk o)
theorem call_req1 {V : Nat → ByteArray} (hf : FilAt W F 1 1 key val) (hk : key.size ≤ maxLen) (v : Gives W (.map m2) n K A L C) (hl : (look K A L C key n).2.1 ≤ 1048576) (hs : StrAt W (look K A L C key n).1 (look K A L C key n).2.1 V) : Call14 W F op role ka kn kc m1 m2 (eqB V val (look K A L C key n).2.1) := fun W' hb =>
  zz_any W' F op role ka kn kc m1 m2 _ fun o => holds_req1 (W'.alloc o) F key val op role ka kn kc m1 m2 _ _ (look K A L C key n).2.2 V (filAt_below (filAt_below hf hb) (below1 W' o)) hl (strAt_below (strAt_below hs hb) (below1 W' o)) (later v hb hk o)
theorem call_req2 {V : Nat → ByteArray} (hf : FilAt W F 1 2 key val) (hk : key.size ≤ maxLen) (v : Gives W (.map m2) n K A L C) (hl : (look K A L C key n).2.1 ≤ 1048576) (hs : StrAt W (look K A L C key n).1 (look K A L C key n).2.1 V) : Call14 W F op role ka kn kc m1 m2 (neB V val (look K A L C key n).2.1) := fun W' hb =>
  zz_any W' F op role ka kn kc m1 m2 _ fun o => holds_req2 (W'.alloc o) F key val op role ka kn kc m1 m2 _ _ (look K A L C key n).2.2 V (filAt_below (filAt_below hf hb) (below1 W' o)) hl (strAt_below (strAt_below hs hb) (below1 W' o)) (later v hb hk o)


/-- What a list of l values answers: none, one, more. -/
def Answers (l : Nat) (E N : Bool) : Prop :=
  (l = 0 ∧ E = false ∧ N = false) ∨ (l = 1 ∧ E = true ∧ N = false) ∨ (l = 1 ∧ E = false ∧ N = true) ∨ (2 ≤ l ∧ E = true ∧ N = true) ∨ (2 ≤ l ∧ E = true ∧ N = false) ∨ (2 ≤ l ∧ E = false ∧ N = true)
theorem answers_of (V : Nat → ByteArray) (v : ByteArray) (l : Nat) : Answers l (eqB V v l) (neB V v l) := by
  match l with
  | 0 => exact Or.inl ⟨rfl, law0 V v⟩
  | 1 =>
    have := law1 V v
    cases hn : neB V v 1
    · rw [hn] at this; exact Or.inr (Or.inl ⟨rfl, this, rfl⟩)
    · rw [hn] at this; exact Or.inr (Or.inr (Or.inl ⟨rfl, this, rfl⟩))
  | l + 2 =>
    have := law2 V v (l + 2) (by omega)
    cases he : eqB V v (l + 2) <;> cases hn : neB V v (l + 2)
    · rw [he, hn] at this; simp at this
    · exact Or.inr (Or.inr (Or.inr (Or.inr (Or.inr ⟨by omega, rfl, rfl⟩))))
    · exact Or.inr (Or.inr (Or.inr (Or.inr (Or.inl ⟨by omega, rfl, rfl⟩))))
    · exact Or.inr (Or.inr (Or.inr (Or.inl ⟨by omega, rfl, rfl⟩)))

variable {B g : Nat} {ao : Option Addr}
theorem three_obj (hR : Ready W B 2 op role key val ka kn kc m1 m2) (hk : key.size ≤ maxLen) (v : Gives W (.map m1) n K A L C) (f : HdrFn W ao n g K A L C) :
    ∃ (a : Option Addr) (l c : Nat) (E N : Bool), look K A L C key n = (a, l, c) ∧ l ≤ 1048576 ∧ Call14 W (B + 1 + 1 + 1) op role ka kn kc m1 m2 E ∧ Call14 W (B + 1 + 1 + 1 + 1 + 1) op role ka kn kc m1 m2 N ∧ Call14 W (B + 1 + 1 + 1 + 1 + 1 + 1 + 1) op role ka kn kc m1 m2 false ∧ Answers l E N := by
  obtain ⟨hl, hu⟩ := look_ok f key n (Nat.le_refl _)
  obtain ⟨V, hs⟩ := strUp_at hu
  exact ⟨_, _, _, _, _, rfl, hl, call_obj1 hR.1 hk v hl hs, call_obj2 hR.2.1 hk v hl hs, call_obj0 (V := V) hR.2.2.1 hk v hl hs, answers_of V val _⟩
theorem three_req (hR : Ready W B 1 op role key val ka kn kc m1 m2) (hk : key.size ≤ maxLen) (v : Gives W (.map m2) n K A L C) (f : HdrFn W ao n g K A L C) :
    ∃ (a : Option Addr) (l c : Nat) (E N : Bool), look K A L C key n = (a, l, c) ∧ l ≤ 1048576 ∧ Call14 W (B + 1 + 1 + 1) op role ka kn kc m1 m2 E ∧ Call14 W (B + 1 + 1 + 1 + 1 + 1) op role ka kn kc m1 m2 N ∧ Call14 W (B + 1 + 1 + 1 + 1 + 1 + 1 + 1) op role ka kn kc m1 m2 false ∧ Answers l E N := by
  obtain ⟨hl, hu⟩ := look_ok f key n (Nat.le_refl _)
  obtain ⟨V, hs⟩ := strUp_at hu
  exact ⟨_, _, _, _, _, rfl, hl, call_req1 hR.1 hk v hl hs, call_req2 hR.2.1 hk v hl hs, call_req0 (V := V) hR.2.2.1 hk v hl hs, answers_of V val _⟩
end
end Go.Proofs.Qxb6603097a.filterWalks
