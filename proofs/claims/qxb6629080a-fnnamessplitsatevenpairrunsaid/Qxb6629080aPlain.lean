/-
  PLAIN: what Names gives for a list of arguments; the parity model; the split. No Go in sight.
-/
namespace Go.Proofs.Qxb6629080a
set_option linter.unusedVariables false
set_option linter.unusedSimpArgs false

structure Par where
  name : ByteArray
  ty : ByteArray
  req : Bool
  paired : Bool
  opt : Bool
  framing : Bool

def blank : Par := ⟨ByteArray.empty, ByteArray.empty, false, false, false, false⟩

/-- the word of one argument. -/
def single (p : Par) : ByteArray :=
  if p.opt = true then (⟨#[45, 45]⟩ : ByteArray) ++ p.name else if (p.ty.toList == [97, 114, 114, 97, 121]) = true then p.name ++ (⟨#[46, 46, 46]⟩ : ByteArray) else p.name
/-- the word of a pair. -/
def pair (p q : Par) : ByteArray := p.name ++ (⟨#[61]⟩ : ByteArray) ++ q.name

def names : List Par → List ByteArray
  | [] => []
  | [p] => [single p]
  | p :: q :: r => if p.paired = true then pair p q :: names r else single p :: names (q :: r)

theorem names_cons_not (p : Par) (r : List Par) (h : p.paired = false) : names (p :: r) = single p :: names r := by
  cases r with
  | nil => simp [names]
  | cons q r => simp [names, h]

/-! ### lengths -/
theorem names_len_le : ∀ (l : List Par), (names l).length ≤ l.length
  | [] => by simp [names]
  | [p] => by simp [names]
  | p :: q :: r => by
    have h1 := names_len_le r
    have h2 := names_len_le (q :: r)
    unfold names
    split <;> simp at * <;> omega
theorem names_len_ge : ∀ (l : List Par), l.length ≤ 2 * (names l).length
  | [] => by simp [names]
  | [p] => by simp [names]
  | p :: q :: r => by
    have h1 := names_len_ge r
    have h2 := names_len_ge (q :: r)
    unfold names
    split <;> simp at * <;> omega
theorem names_len_none : ∀ (l : List Par), (∀ p ∈ l, p.paired = false) → (names l).length = l.length
  | [], _ => by simp [names]
  | p :: r, h => by
    rw [names_cons_not p r (h p (by simp))]
    simp [names_len_none r (fun q hq => h q (by simp [hq]))]

/-! ### the walk of Names: what stands ahead -/
theorem names_drop_single (l : List Par) (k : Nat) (hk : k < l.length) (h : ¬ ((l.getD k blank).paired = true ∧ k + 1 < l.length)) : names (l.drop k) = single (l.getD k blank) :: names (l.drop (k + 1)) := by
  have e : l.drop k = l[k] :: l.drop (k + 1) := by rw [List.drop_eq_getElem_cons hk]
  have e2 : l.getD k blank = l[k] := by simp [List.getD_eq_getElem?_getD, hk]
  rw [e2] at h ⊢
  rw [e]
  by_cases h1 : k + 1 < l.length
  · exact names_cons_not _ _ (by simpa [h1] using h)
  · have : l.drop (k + 1) = [] := List.drop_eq_nil_of_le (by omega)
    rw [this]; simp [names]
theorem names_drop_pair (l : List Par) (k : Nat) (hk : k + 1 < l.length) (h : (l.getD k blank).paired = true) : names (l.drop k) = pair (l.getD k blank) (l.getD (k + 1) blank) :: names (l.drop (k + 2)) := by
  have e : l.drop k = l[k] :: l[k + 1] :: l.drop (k + 2) := by rw [List.drop_eq_getElem_cons (by omega), List.drop_eq_getElem_cons hk]
  have e2 : l.getD k blank = l[k] := by simp [List.getD_eq_getElem?_getD, show k < l.length by omega]
  have e3 : l.getD (k + 1) blank = l[k + 1] := by simp [List.getD_eq_getElem?_getD, hk]
  rw [e2] at h
  rw [e, e2, e3]
  simp [names, h]

/-! ### the parity model -/
/-- how many Paired arguments stand unbroken just ahead of place i. -/
def run (l : List Par) : Nat → Nat
  | 0 => 0
  | i + 1 => if (l.getD i blank).paired = true then run l i + 1 else 0
theorem run_le (l : List Par) : ∀ i, run l i ≤ i
  | 0 => by simp [run]
  | i + 1 => by have := run_le l i; unfold run; split <;> omega
def second (l : List Par) (i : Nat) : Bool := decide (i < l.length) && (run l i % 2 == 1)
theorem second_zero (l : List Par) : second l 0 = false := by simp [second, run]
theorem second_end (l : List Par) (i : Nat) (h : l.length ≤ i) : second l i = false := by simp [second]; omega
theorem second_succ_of_not (l : List Par) (i : Nat) (hi : i < l.length) (h : second l i = false) : second l (i + 1) = ((l.getD i blank).paired && decide (i + 1 < l.length)) := by
  have hr : ¬ run l i % 2 = 1 := by simpa [second, hi] using h
  unfold second
  rw [run]
  cases hp : (l.getD i blank).paired
  · simp
  · simp only [if_true, Bool.true_and]
    have : ((run l i + 1) % 2 == 1) = true := by simp; omega
    rw [this]; simp
theorem second_succ_of (l : List Par) (i : Nat) (hi : i < l.length) (h : second l i = true) : second l (i + 1) = false := by
  have hr : run l i % 2 = 1 := by simpa [second, hi] using h
  unfold second
  rw [run]
  have : ((if (l.getD i blank).paired = true then run l i + 1 else 0) % 2 == 1) = false := by
    split <;> simp <;> omega
  rw [this]; simp
/-- what is still to be met at place k of the model's loop. -/
def ahead (l : List Par) (k : Nat) : List ByteArray := if second l k = true then names (l.drop (k + 1)) else names (l.drop k)
theorem ahead_zero (l : List Par) : ahead l 0 = names l := by simp [ahead, second_zero]
theorem ahead_end (l : List Par) : ahead l l.length = [] := by
  simp [ahead, second_end l l.length (Nat.le_refl _), names]
theorem ahead_skip (l : List Par) (k : Nat) (hk : k < l.length) (h : second l k = true) : ahead l k = ahead l (k + 1) := by
  simp [ahead, h, second_succ_of l k hk h]
/-- the word that the model wants at place k. -/
def want (l : List Par) (k : Nat) : ByteArray := if second l (k + 1) = true then pair (l.getD k blank) (l.getD (k + 1) blank) else single (l.getD k blank)
theorem ahead_want (l : List Par) (k : Nat) (hk : k < l.length) (h : second l k = false) : ahead l k = want l k :: ahead l (k + 1) := by
  have hs := second_succ_of_not l k hk h
  unfold ahead want
  rw [h]
  simp only [Bool.false_eq_true, if_false]
  by_cases hp : (l.getD k blank).paired = true ∧ k + 1 < l.length
  · have e : second l (k + 1) = true := by rw [hs]; simp only [hp.1, hp.2, decide_true, Bool.and_self]
    rw [e, names_drop_pair l k hp.2 hp.1]
    simp
  · have e : second l (k + 1) = false := by
      rw [hs]
      cases h1 : (l.getD k blank).paired
      · rfl
      · have : ¬ k + 1 < l.length := fun h2 => hp ⟨h1, h2⟩
        simp [this]
    rw [e, names_drop_single l k hk hp]
    simp

/-! ### the split -/
/-- the length of the run of Paired arguments at the list's end. -/
def tail (l : List Par) : Nat := (l.reverse.takeWhile (·.paired)).length
theorem tw_all {α : Type} {p : α → Bool} {l : List α} (h : ∀ x ∈ l, p x = true) : l.takeWhile p = l := by
  have := List.takeWhile_append_of_pos (l₂ := []) h
  simpa using this
theorem tw_mem {α : Type} {p : α → Bool} : ∀ {l : List α} {x : α}, x ∈ l.takeWhile p → p x = true
  | [], x, h => by simp at h
  | y :: l, x, h => by
    rw [List.takeWhile_cons] at h
    split at h
    · rcases List.mem_cons.1 h with rfl | h
      · assumption
      · exact tw_mem h
    · simp at h
theorem tail_cons (p : Par) (r : List Par) : tail (p :: r) = if (∀ x ∈ r, x.paired = true) ∧ p.paired = true then r.length + 1 else if ∀ x ∈ r, x.paired = true then r.length else tail r := by
  unfold tail
  rw [List.reverse_cons]
  by_cases h : ∀ x ∈ r, x.paired = true
  · rw [List.takeWhile_append_of_pos (by intro x hx; exact h x (by simpa using hx))]
    by_cases hp : p.paired = true
    · simp [h, hp, List.takeWhile]
      intro x hx hf
      have := h x hx
      rw [this] at hf; cases hf
    · have hp' : p.paired = false := by simpa using hp
      rw [if_neg (fun hh => hp hh.2), if_pos h]
      simp [List.takeWhile, hp']
  · rw [if_neg (fun hh => h hh.1), if_neg h, List.takeWhile_append]
    rw [if_neg]
    intro hl
    apply h
    intro x hx
    have e := List.takeWhile_sublist (l := r.reverse) (·.paired)
    have e2 := e.eq_of_length hl
    have hm : x ∈ r.reverse := by simpa using hx
    rw [← e2] at hm
    exact tw_mem (p := fun q : Par => q.paired) hm

theorem names_append : ∀ (a b : List Par), tail a % 2 = 0 → names (a ++ b) = names a ++ names b
  | [], b, _ => by simp [names]
  | [p], b, h => by
    have hp : p.paired = false := by
      cases hp : p.paired
      · rfl
      · rw [tail_cons] at h; simp [hp] at h
    rw [List.singleton_append, names_cons_not p b hp]
    simp [names]
  | p :: q :: r, b, h => by
    by_cases hp : p.paired = true
    · have hr : tail r % 2 = 0 := by
        rw [tail_cons, tail_cons] at h
        by_cases h1 : ∀ x ∈ r, x.paired = true
        · have e : tail r = r.length := by
            unfold tail
            rw [tw_all (by intro x hx; exact h1 x (List.mem_reverse.1 hx))]
            simp
          rw [e]
          by_cases hq : q.paired = true
          · have h2 : ∀ x ∈ q :: r, x.paired = true := by
              intro x hx
              rcases List.mem_cons.1 hx with rfl | hx
              · exact hq
              · exact h1 x hx
            rw [if_pos ⟨h2, hp⟩] at h
            simp at h
            omega
          · have h2 : ¬ ∀ x ∈ q :: r, x.paired = true := fun hh => hq (hh q (by simp))
            rw [if_neg (fun hh => h2 hh.1), if_neg h2, if_neg (fun hh => hq hh.2), if_pos h1] at h
            exact h
        · have h2 : ¬ ∀ x ∈ q :: r, x.paired = true := fun hh => h1 (fun x hx => hh x (by simp [hx]))
          rw [if_neg (fun hh => h2 hh.1), if_neg h2, if_neg (fun hh => h1 hh.1), if_neg h1] at h
          exact h
      have ih := names_append r b hr
      simp [names, hp, ih]
    · have hp' : p.paired = false := by simpa using hp
      have hr : tail (q :: r) % 2 = 0 := by
        rw [tail_cons] at h
        by_cases h1 : ∀ x ∈ q :: r, x.paired = true
        · rw [if_neg (fun hh => hp hh.2), if_pos h1] at h
          have e : tail (q :: r) = (q :: r).length := by
            unfold tail
            rw [tw_all (by intro x hx; exact h1 x (List.mem_reverse.1 hx))]
            simp
          rw [e]; exact h
        · rw [if_neg (fun hh => h1 hh.1), if_neg h1] at h
          exact h
      have ih := names_append (q :: r) b hr
      rw [List.cons_append, names_cons_not p _ hp', names_cons_not p _ hp', ih]
      simp

/-- The law's own count, from the end: after i rounds. -/
theorem tail_stop (l : List Par) (j : Nat) (hj : j ≤ l.length) (h1 : ∀ i, l.length - j ≤ i → i < l.length → (l.getD i blank).paired = true) (h2 : j = l.length ∨ (l.getD (l.length - j - 1) blank).paired = false) : tail l = j := by
  unfold tail
  have hs : l = l.take (l.length - j) ++ l.drop (l.length - j) := (List.take_append_drop _ _).symm
  have hd : ∀ x ∈ (l.drop (l.length - j)).reverse, x.paired = true := by
    intro x hx
    obtain ⟨i, hi, e⟩ := List.getElem_of_mem (List.mem_reverse.1 hx)
    have hi2 : l.length - j + i < l.length := by simp at hi; omega
    have := h1 (l.length - j + i) (by omega) hi2
    rw [List.getD_eq_getElem?_getD, List.getElem?_eq_getElem hi2] at this
    rw [← e, List.getElem_drop]
    simpa using this
  conv => lhs; rw [hs, List.reverse_append]
  rw [List.takeWhile_append_of_pos hd]
  have e2 : (l.take (l.length - j)).reverse.takeWhile (·.paired) = [] := by
    rcases h2 with h2 | h2
    · rw [h2]; simp
    · by_cases hz : l.length - j = 0
      · rw [hz]; simp
      · have hlt : l.length - j - 1 < l.length := by omega
        have e : l.take (l.length - j) = l.take (l.length - j - 1) ++ [l[l.length - j - 1]] := by
          rw [← List.take_succ_eq_append_getElem hlt]; congr 1; omega
        rw [e, List.reverse_append]
        rw [List.getD_eq_getElem?_getD, List.getElem?_eq_getElem hlt] at h2
        simp at h2
        simp [List.takeWhile, h2]
  rw [e2]
  simp
  omega

end Go.Proofs.Qxb6629080a
