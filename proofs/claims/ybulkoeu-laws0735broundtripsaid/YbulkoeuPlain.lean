/-
  OWN WORK (seat b0735a). The plain side of unquotePairs: a state machine over a list of bytes. No Go in sight.
-/
import GoSem.Core.Value
namespace Go.Proofs.Ybulkoeu

/-- What is left of a text when the backslash of each quoted pair is removed; 'b': a backslash is open. -/
def unqS : Bool → List UInt8 → List UInt8
  | _, [] => []
  | true, c :: r => c :: unqS false r
  | false, c :: r => if c = 92 then unqS true r else c :: unqS false r

/-- Is a backslash open at the end? -/
def opnS : Bool → List UInt8 → Bool
  | b, [] => b
  | true, _ :: r => opnS false r
  | false, c :: r => if c = 92 then opnS true r else opnS false r

theorem unqS_append (a c : List UInt8) : ∀ b, unqS b (a ++ c) = unqS b a ++ unqS (opnS b a) c := by
  induction a with
  | nil => intro b; cases b <;> simp [unqS, opnS]
  | cons x a ih =>
    intro b
    cases b
    · by_cases h : x = 92
      · simp [unqS, opnS, h, ih]
      · simp [unqS, opnS, h, ih]
    · simp [unqS, opnS, ih]

theorem opnS_append (a c : List UInt8) : ∀ b, opnS b (a ++ c) = opnS (opnS b a) c := by
  induction a with
  | nil => intro b; cases b <;> simp [opnS]
  | cons x a ih =>
    intro b
    cases b
    · by_cases h : x = 92
      · simp [opnS, h, ih]
      · simp [opnS, h, ih]
    · simp [opnS, ih]

theorem unqS_le (l : List UInt8) : ∀ b, (unqS b l).length ≤ l.length := by
  induction l with
  | nil => intro b; cases b <;> simp [unqS]
  | cons x l ih =>
    intro b
    have h0 := ih false
    have h1 := ih true
    cases b
    · by_cases h : x = 92
      · simp [unqS, h]; omega
      · simp [unqS, h]; omega
    · simp [unqS]; omega

/-! ### one step at place i -/
theorem drop_at (l : List UInt8) (i : Nat) (h : i < l.length) : l.drop i = l[i] :: l.drop (i + 1) := List.drop_eq_getElem_cons h

theorem unq_true (l : List UInt8) (i : Nat) (h : i < l.length) : unqS true (l.drop i) = l[i] :: unqS false (l.drop (i + 1)) := by
  rw [drop_at l i h]; rfl
theorem unq_false_no (l : List UInt8) (i : Nat) (h : i < l.length) (hc : l[i] ≠ 92) : unqS false (l.drop i) = l[i] :: unqS false (l.drop (i + 1)) := by
  rw [drop_at l i h]; simp [unqS, hc]
theorem unq_false_yes (l : List UInt8) (i : Nat) (h : i < l.length) (hc : l[i] = 92) : unqS false (l.drop i) = unqS true (l.drop (i + 1)) := by
  rw [drop_at l i h]; simp [unqS, hc]
theorem opn_true (l : List UInt8) (i : Nat) (h : i < l.length) : opnS true (l.drop i) = opnS false (l.drop (i + 1)) := by
  rw [drop_at l i h]; rfl
theorem opn_false_no (l : List UInt8) (i : Nat) (h : i < l.length) (hc : l[i] ≠ 92) : opnS false (l.drop i) = opnS false (l.drop (i + 1)) := by
  rw [drop_at l i h]; simp [opnS, hc]
theorem opn_false_yes (l : List UInt8) (i : Nat) (h : i < l.length) (hc : l[i] = 92) : opnS false (l.drop i) = opnS true (l.drop (i + 1)) := by
  rw [drop_at l i h]; simp [opnS, hc]
theorem opn_true_lt (l : List UInt8) (i : Nat) (h : opnS true (l.drop i) = false) : i < l.length := by
  rcases Nat.lt_or_ge i l.length with h' | h'
  · exact h'
  · rw [List.drop_eq_nil_of_le h'] at h; simp [opnS] at h

/-- The law LawS0735BModel in plain words: an open backslash closed by an 'x'. -/
theorem model_open (l : List UInt8) (h : opnS false l = true) : opnS false (l ++ [120]) = false ∧ unqS false (l ++ [120]) = unqS false l ++ [120] := by
  rw [opnS_append, unqS_append, h]; exact ⟨rfl, rfl⟩

/-- One round of the quoting loop. -/
theorem quote_one (acc t : List UInt8) (c : UInt8) (q : Bool) (hu : unqS false acc = t) (ho : opnS false acc = false) (hq : c = 92 → q = true) :
    unqS false ((if q then acc ++ [92] else acc) ++ [c]) = t ++ [c] ∧ opnS false ((if q then acc ++ [92] else acc) ++ [c]) = false := by
  cases q
  · have hc : c ≠ 92 := fun h => by simpa using hq h
    simp [unqS_append, opnS_append, hu, ho, unqS, opnS, hc]
  · simp [unqS_append, opnS_append, hu, ho, unqS, opnS]

end Go.Proofs.Ybulkoeu
