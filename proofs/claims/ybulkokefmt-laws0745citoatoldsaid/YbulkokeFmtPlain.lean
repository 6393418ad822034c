/-
  OWN WORK (seat b0745aF). The plain side of parseYear's laws: what the law's own model reads against what strconv.Atoi reads. No Go in sight.
-/
import Derived.Lib.AtoiAll
import Derived.Lib.ItoaMem
namespace Go.Proofs.YbulkokeFmt

/-- The loop of the law's model: v stands still beyond 10001. -/
def digs : Nat → List UInt8 → Option Nat
  | v, [] => some v
  | v, c :: r => if 48 ≤ c.toNat ∧ c.toNat ≤ 57 then digs (if v ≤ 10001 then v * 10 + (c.toNat - 48) else v) r else none

/-- What the loop's outcome gives. -/
def fin (neg : Bool) : Option Nat → Option Nat
  | none => none
  | some v => if 10001 < v then none else if neg = true ∧ v ≠ 0 then none else some v

/-- The law's model. -/
def year : List UInt8 → Option Nat
  | [] => none
  | c :: r =>
    if c.toNat = 43 ∨ c.toNat = 45 then (if r = [] then none else fin (decide (c.toNat = 45)) (digs 0 r))
    else fin false (digs 0 (c :: r))

/-- The two counts go together. -/
def J (v acc : Nat) : Prop := (acc ≤ 10001 ∧ v = acc) ∨ (10001 < acc ∧ 10001 < v)

theorem digs_parse : ∀ (l : List UInt8) (v acc : Nat), J v acc →
    (∀ u, Lib.parseUint10 acc l = .ok u → ∃ v', digs v l = some v' ∧ J v' u) ∧ ((∀ u, Lib.parseUint10 acc l ≠ .ok u) → ∀ v', digs v l = some v' → 10001 < v')
  | [], v, acc, h => by
    refine ⟨fun u hu => ⟨v, rfl, ?_⟩, fun hn => absurd rfl (hn acc)⟩
    simp only [Lib.parseUint10] at hu
    injection hu with hu
    subst hu; exact h
  | c :: r, v, acc, h => by
    by_cases hd : 48 ≤ c.toNat ∧ c.toNat ≤ 57
    · have hstep : digs v (c :: r) = digs (if v ≤ 10001 then v * 10 + (c.toNat - 48) else v) r := by simp only [digs]; rw [if_pos hd]
      rw [hstep]
      by_cases h1 : 1844674407370955162 ≤ acc ∨ 18446744073709551616 ≤ acc * 10 + (c.toNat - 48)
      · have hp : ∀ u, Lib.parseUint10 acc (c :: r) ≠ .ok u := by
          intro u hu
          simp only [Lib.parseUint10] at hu
          rw [if_pos hd] at hu
          split at hu
          · cases hu
          · split at hu
            · cases hu
            · omega
        refine ⟨fun u hu => absurd hu (hp u), fun _ v' hv' => ?_⟩
        have hv : 10001 < v := by rcases h with ⟨a, b⟩ | ⟨a, b⟩ <;> omega
        rw [if_neg (by omega)] at hv'
        have mono : ∀ (r : List UInt8) (v v' : Nat), 10001 < v → digs v r = some v' → 10001 < v' := by
          intro r
          induction r with
          | nil => intro v v' hv e; simp only [digs] at e; injection e with e; omega
          | cons c r ih =>
            intro v v' hv e
            simp only [digs] at e
            split at e
            · rw [if_neg (by omega)] at e; exact ih v v' hv e
            · cases e
        exact mono r v v' hv hv'
      · have hp : Lib.parseUint10 acc (c :: r) = Lib.parseUint10 (acc * 10 + (c.toNat - 48)) r := by
          simp only [Lib.parseUint10]
          rw [if_pos hd, if_neg (by omega), if_neg (by omega)]
        rw [hp]
        refine digs_parse r _ _ ?_
        rcases h with ⟨a, b⟩ | ⟨a, b⟩
        · subst b
          rw [if_pos a]
          by_cases h2 : v * 10 + (c.toNat - 48) ≤ 10001
          · exact Or.inl ⟨h2, rfl⟩
          · exact Or.inr ⟨by omega, by omega⟩
        · rw [if_neg (by omega)]
          exact Or.inr ⟨by omega, b⟩
    · have hp : ∀ u, Lib.parseUint10 acc (c :: r) ≠ .ok u := by
        intro u hu
        simp only [Lib.parseUint10] at hu
        rw [if_neg hd] at hu
        cases hu
      refine ⟨fun u hu => absurd hu (hp u), fun _ v' hv' => ?_⟩
      simp only [digs] at hv'
      rw [if_neg hd] at hv'
      cases hv'

/-- THE PLAIN LAW OF LawS0745CModel: the model gives v just where Atoi gives v, and v lies in 0 .. 10001. -/
theorem year_some {l : List UInt8} {v : Nat} (h : year l = some v) : Lib.atoiAll l = .ok (v : Int) ∧ v ≤ 10001 := by
  cases l with
  | nil => cases h
  | cons c r =>
    have core : ∀ (neg : Bool) (b : List UInt8), fin neg (digs 0 b) = some v → Lib.parseUint10 0 b = .ok v ∧ v ≤ 10001 ∧ (neg = true → v = 0) := by
      intro neg b hf
      have hj := digs_parse b 0 0 (Or.inl ⟨by omega, rfl⟩)
      cases hd : digs 0 b with
      | none => rw [hd] at hf; cases hf
      | some v' =>
        rw [hd] at hf
        simp only [fin] at hf
        split at hf
        · cases hf
        · split at hf
          · cases hf
          · injection hf with hf
            subst hf
            rename_i h1 h2
            have hok : ∃ u, Lib.parseUint10 0 b = .ok u := by
              refine Classical.byContradiction fun hno => ?_
              have := hj.2 (fun u hu => hno ⟨u, hu⟩) v' hd
              omega
            obtain ⟨u, hu⟩ := hok
            obtain ⟨v2, e2, hJ⟩ := hj.1 u hu
            rw [hd] at e2
            injection e2 with e2
            subst e2
            have huv : u = v' := by rcases hJ with ⟨a, b⟩ | ⟨a, b⟩ <;> omega
            subst huv
            exact ⟨hu, by omega, fun hn => by refine Classical.byContradiction fun h0 => h2 ⟨hn, h0⟩⟩
    simp only [year] at h
    split at h
    · rename_i hs
      split at h
      · cases h
      · rename_i hr
        obtain ⟨hp, hle, hneg⟩ := core _ _ h
        refine ⟨?_, hle⟩
        simp only [Lib.atoiAll, Lib.parseMag]
        rw [if_pos hs, if_neg hr, hp]
        by_cases h45 : c.toNat = 45
        · have : v = 0 := hneg (by simpa using h45)
          subst this
          simp [h45]
        · simp only [h45, false_and, if_false, not_false_eq_true, true_and]
          rw [if_neg (by omega)]
    · rename_i hs
      obtain ⟨hp, hle, _⟩ := core _ _ h
      refine ⟨?_, hle⟩
      simp only [Lib.atoiAll, Lib.parseMag]
      have h45 : ¬ c.toNat = 45 := fun h => hs (Or.inr h)
      rw [if_neg hs, if_neg (by simp), hp]
      simp only [h45, false_and, if_false, not_false_eq_true, true_and]
      rw [if_neg (by omega)]

theorem year_none {l : List UInt8} (h : year l = none) (v : Int) (hv : Lib.atoiAll l = .ok v) : v < 0 ∨ 10001 < v := by
  cases l with
  | nil => cases hv
  | cons c r =>
    have core : ∀ (neg : Bool) (b : List UInt8) (u : Nat), fin neg (digs 0 b) = none → Lib.parseUint10 0 b = .ok u → 10001 < u ∨ (neg = true ∧ u ≠ 0) := by
      intro neg b u hf hu
      obtain ⟨v', e, hJ⟩ := (digs_parse b 0 0 (Or.inl ⟨by omega, rfl⟩)).1 u hu
      rw [e] at hf
      simp only [fin] at hf
      split at hf
      · rcases hJ with ⟨a, b⟩ | ⟨a, b⟩
        · omega
        · exact Or.inl a
      · split at hf
        · rename_i h1 h2
          rcases hJ with ⟨a, b⟩ | ⟨a, b⟩
          · subst b; exact Or.inr h2
          · exact Or.inl a
        · cases hf
    simp only [year] at h
    simp only [Lib.atoiAll, Lib.parseMag] at hv
    split at h
    · rename_i hs
      rw [if_pos hs] at hv
      split at h
      · rename_i hr
        rw [if_pos hr] at hv
        cases hv
      · rename_i hr
        rw [if_neg hr] at hv
        split at hv
        · cases hv
        · cases hv
        · rename_i u hu
          have hc := core _ _ u h hu
          by_cases h45 : c.toNat = 45
          · simp only [h45, not_true_eq_false, false_and, if_false, true_and, if_true] at hv
            split at hv
            · cases hv
            · injection hv with hv
              rcases hc with hc | ⟨_, hc⟩ <;> omega
          · simp only [h45, false_and, if_false, not_false_eq_true, true_and] at hv
            split at hv
            · cases hv
            · injection hv with hv
              rcases hc with hc | ⟨hc, _⟩
              · omega
              · simp [h45] at hc
    · rename_i hs
      have h45 : ¬ c.toNat = 45 := fun h => hs (Or.inr h)
      rw [if_neg hs, if_neg (by simp)] at hv
      split at hv
      · cases hv
      · cases hv
      · rename_i u hu
        have hc := core _ _ u h hu
        simp only [h45, false_and, if_false, not_false_eq_true, true_and] at hv
        split at hv
        · cases hv
        · injection hv with hv
          rcases hc with hc | ⟨hc, _⟩
          · omega
          · cases hc

/-! ### strconv.Itoa's text reads back -/
theorem parse_append : ∀ (a b : List UInt8) (acc x : Nat), Lib.parseUint10 acc a = .ok x → Lib.parseUint10 acc (a ++ b) = Lib.parseUint10 x b
  | [], b, acc, x, h => by simp only [Lib.parseUint10] at h; injection h with h; subst h; rfl
  | c :: r, b, acc, x, h => by
    simp only [List.cons_append, Lib.parseUint10] at h ⊢
    split at h
    · rename_i hd
      rw [if_pos hd]
      split at h
      · cases h
      · rename_i h1
        rw [if_neg h1]
        split at h
        · cases h
        · rename_i h2
          rw [if_neg h2]
          exact parse_append r b _ x h
    · cases h

theorem digit_nat (d : Nat) (h : d < 10) : (UInt8.ofNat (48 + d)).toNat = 48 + d := by simp; omega

theorem parse_digits (n : Nat) : ∀ u, u ≤ n → u < 18446744073709551616 → Lib.parseUint10 0 (Lib.decDigits u) = .ok u := by
  induction n with
  | zero =>
    intro u hu _
    obtain rfl : u = 0 := by omega
    rw [Lib.decDigits, dif_pos (by omega)]
    rfl
  | succ n ih =>
    intro u hu hb
    rw [Lib.decDigits]
    by_cases h10 : u < 10
    · rw [dif_pos h10]
      simp only [Lib.parseUint10]
      rw [digit_nat u h10, if_pos (by omega), if_neg (by omega), if_neg (by omega)]
      congr 1
      omega
    · rw [dif_neg h10, parse_append _ _ 0 (u / 10) (ih (u / 10) (by omega) (by omega))]
      simp only [Lib.parseUint10]
      rw [digit_nat (u % 10) (by omega), if_pos (by omega), if_neg (by omega), if_neg (by omega)]
      congr 1
      omega

theorem digits_head (u : Nat) : ∃ c r, Lib.decDigits u = c :: r ∧ c.toNat ≠ 43 ∧ c.toNat ≠ 45 := by
  have all : ∀ n u, u ≤ n → ∀ c ∈ Lib.decDigits u, 48 ≤ c.toNat := by
    intro n
    induction n with
    | zero =>
      intro u hu c hc
      obtain rfl : u = 0 := by omega
      rw [Lib.decDigits, dif_pos (by omega)] at hc
      simp at hc; subst hc; decide
    | succ n ih =>
      intro u hu c hc
      rw [Lib.decDigits] at hc
      by_cases h10 : u < 10
      · rw [dif_pos h10] at hc
        simp only [List.mem_singleton] at hc
        rw [hc, digit_nat u h10]; omega
      · rw [dif_neg h10] at hc
        rcases List.mem_append.1 hc with hc | hc
        · exact ih (u / 10) (by omega) c hc
        · simp only [List.mem_singleton] at hc
          rw [hc, digit_nat _ (by omega)]; omega
  cases hd : Lib.decDigits u with
  | nil => rw [Lib.decDigits] at hd; split at hd <;> simp at hd
  | cons c r =>
    have := all u u (Nat.le_refl _) c (by rw [hd]; exact List.mem_cons_self)
    exact ⟨c, r, rfl, by omega, by omega⟩

/-- THE PLAIN LAW OF LawS0745CItoa. -/
theorem atoi_itoa (n : Int) (h0 : -9223372036854775808 ≤ n) (h1 : n ≤ 9223372036854775807) : Lib.atoiAll (Lib.itoa n) = .ok n := by
  by_cases hn : n < 0
  · obtain ⟨u, rfl⟩ : ∃ u : Nat, n = -(u : Int) := ⟨n.natAbs, by omega⟩
    rw [Lib.itoa_neg u (by omega)]
    obtain ⟨c, r, hd, _, _⟩ := digits_head u
    simp only [Lib.atoiAll, Lib.parseMag]
    rw [if_pos (show UInt8.toNat 45 = 43 ∨ UInt8.toNat 45 = 45 from Or.inr rfl), if_neg (show ¬ Lib.decDigits u = [] from by rw [hd]; simp), parse_digits u u (Nat.le_refl _) (by omega)]
    simp only [show (45 : UInt8).toNat = 45 from rfl, not_true_eq_false, false_and, if_false, true_and, if_true]
    rw [if_neg (by omega)]
  · obtain ⟨u, rfl⟩ : ∃ u : Nat, n = (u : Int) := ⟨n.toNat, by omega⟩
    rw [Lib.itoa_nonneg]
    obtain ⟨c, r, hd, h43, h45⟩ := digits_head u
    have hp := parse_digits u u (Nat.le_refl _) (by omega)
    rw [hd] at hp ⊢
    simp only [Lib.atoiAll, Lib.parseMag]
    rw [if_neg (show ¬ (c.toNat = 43 ∨ c.toNat = 45) from by omega), if_neg (show ¬ c :: r = [] from by simp), hp]
    simp only [h45, false_and, if_false, not_false_eq_true, true_and]
    rw [if_neg (by omega)]

end Go.Proofs.YbulkokeFmt
