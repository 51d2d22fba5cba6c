/-
  THE PLAIN MODEL OF heldLines: no Go in sight.
-/
namespace Go.Proofs.Qxb6601047a.Held

/-- the place of the first of A's first n lines that is s -/
def idx (A : Nat → ByteArray) (s : ByteArray) : Nat → Option Nat
  | 0 => none
  | n + 1 => match idx A s n with
    | some j => some j
    | none => if A n = s then some n else none

def find (A : Nat → ByteArray) (s : ByteArray) (n : Nat) : Int := match idx A s n with | some j => (j : Int) | none => -1
theorem find_some {A : Nat → ByteArray} {s : ByteArray} {n j : Nat} (h : idx A s n = some j) : find A s n = j := by unfold find; rw [h]
theorem find_none {A : Nat → ByteArray} {s : ByteArray} {n : Nat} (h : idx A s n = none) : find A s n = -1 := by unfold find; rw [h]

/-- how many different lines the first n are -/
def dc (A : Nat → ByteArray) : Nat → Nat
  | 0 => 0
  | n + 1 => dc A n + (if (idx A (A n) n).isNone then 1 else 0)

theorem idx_some {A : Nat → ByteArray} {s : ByteArray} : ∀ {n j : Nat}, idx A s n = some j → j < n ∧ A j = s ∧ ∀ i, i < j → A i ≠ s
  | 0, j, h => by simp [idx] at h
  | n + 1, j, h => by
    simp only [idx] at h
    cases hi : idx A s n with
    | some k =>
      rw [hi] at h
      simp only [Option.some.injEq] at h
      subst h
      obtain ⟨h1, h2, h3⟩ := idx_some hi
      exact ⟨by omega, h2, h3⟩
    | none =>
      rw [hi] at h
      simp only at h
      split at h
      · rename_i hA
        simp only [Option.some.injEq] at h
        subst h
        refine ⟨by omega, hA, fun i hi' e => ?_⟩
        have : ∀ n, idx A s n = none → ∀ i, i < n → A i ≠ s := by
          intro n
          induction n with
          | zero => intro _ i hi; omega
          | succ n ih =>
            intro hn i hi
            simp only [idx] at hn
            cases hk : idx A s n with
            | some k => rw [hk] at hn; simp at hn
            | none =>
              rw [hk] at hn
              simp only at hn
              split at hn
              · simp at hn
              · rename_i hne
                by_cases e : i = n
                · subst e; exact hne
                · exact ih hk i (by omega)
        exact this n hi i hi' e
      · simp at h

theorem idx_none {A : Nat → ByteArray} {s : ByteArray} : ∀ {n : Nat}, idx A s n = none → ∀ i, i < n → A i ≠ s
  | 0, _, i, hi => by omega
  | n + 1, h, i, hi => by
    simp only [idx] at h
    cases hk : idx A s n with
    | some k => rw [hk] at h; simp at h
    | none =>
      rw [hk] at h
      simp only at h
      split at h
      · simp at h
      · rename_i hne
        by_cases e : i = n
        · subst e; exact hne
        · exact idx_none hk i (by omega)

/-- a first place is the place -/
theorem idx_of {A : Nat → ByteArray} {s : ByteArray} {n j : Nat} (hj : j < n) (hA : A j = s) (hf : ∀ i, i < j → A i ≠ s) : idx A s n = some j := by
  cases h : idx A s n with
  | none => exact absurd hA (idx_none h j hj)
  | some k =>
    obtain ⟨h1, h2, h3⟩ := idx_some h
    rcases Nat.lt_trichotomy k j with hlt | he | hgt
    · exact absurd h2 (hf k hlt)
    · rw [he]
    · exact absurd hA (h3 j hgt)

theorem idx_none_of {A : Nat → ByteArray} {s : ByteArray} {n : Nat} (hf : ∀ i, i < n → A i ≠ s) : idx A s n = none := by
  cases h : idx A s n with
  | none => rfl
  | some k =>
    obtain ⟨h1, h2, _⟩ := idx_some h
    exact absurd h2 (hf k h1)

theorem idx_more {A : Nat → ByteArray} {s : ByteArray} {n j : Nat} (h : idx A s n = some j) {n' : Nat} (hn : n ≤ n') : idx A s n' = some j := by
  obtain ⟨h1, h2, h3⟩ := idx_some h
  exact idx_of (by omega) h2 h3

theorem dc_mono (A : Nat → ByteArray) (i : Nat) : ∀ r, dc A i ≤ dc A (i + r)
  | 0 => Nat.le_refl _
  | r + 1 => by
    have := dc_mono A i r
    show dc A i ≤ dc A (i + r) + _
    omega
theorem dc_le (A : Nat → ByteArray) : ∀ n, dc A n ≤ n
  | 0 => Nat.le_refl _
  | n + 1 => by
    have := dc_le A n
    show dc A n + _ ≤ n + 1
    split <;> omega

/-- a line that is new raises the count -/
theorem dc_new {A : Nat → ByteArray} {j : Nat} (hf : ∀ i, i < j → A i ≠ A j) : dc A (j + 1) = dc A j + 1 := by
  show dc A j + _ = _
  rw [idx_none_of hf]
  rfl
theorem dc_old {A : Nat → ByteArray} {j k : Nat} (h : idx A (A j) j = some k) : dc A (j + 1) = dc A j := by
  show dc A j + _ = _
  rw [h]
  rfl

theorem dc_lt {A : Nat → ByteArray} {s : ByteArray} {n j : Nat} (h : idx A s n = some j) : dc A j < dc A n := by
  obtain ⟨h1, h2, h3⟩ := idx_some h
  have e := dc_new (A := A) (j := j) (fun i hi => by rw [h2]; exact h3 i hi)
  have := dc_mono A (j + 1) (n - (j + 1))
  rw [show j + 1 + (n - (j + 1)) = n from by omega] at this
  omega

/-- two lines of one number are one -/
theorem num_inj {A : Nat → ByteArray} {s t : ByteArray} {n i j : Nat} (hs : idx A s n = some i) (ht : idx A t n = some j) (h : dc A i = dc A j) : s = t := by
  obtain ⟨a1, a2, a3⟩ := idx_some hs
  obtain ⟨b1, b2, b3⟩ := idx_some ht
  have ea := dc_new (A := A) (j := i) (fun k hk => by rw [a2]; exact a3 k hk)
  have eb := dc_new (A := A) (j := j) (fun k hk => by rw [b2]; exact b3 k hk)
  rcases Nat.lt_trichotomy i j with hlt | he | hgt
  · have := dc_mono A (i + 1) (j - (i + 1))
    rw [show i + 1 + (j - (i + 1)) = j from by omega] at this
    omega
  · rw [← a2, ← b2, he]
  · have := dc_mono A (j + 1) (i - (j + 1))
    rw [show j + 1 + (i - (j + 1)) = i from by omega] at this
    omega

/-- the number of the line s among A's first n (0 where it is none of them) -/
def num (A : Nat → ByteArray) (n : Nat) (s : ByteArray) : Nat := ((idx A s n).map (dc A)).getD 0
def isIn (A : Nat → ByteArray) (n : Nat) (s : ByteArray) : Bool := (idx A s n).isSome

theorem num_of {A : Nat → ByteArray} {s : ByteArray} {n j : Nat} (h : idx A s n = some j) : num A n s = dc A j := by simp [num, h]

/-- what is gathered from the places below k where c says yes -/
def acc (c : Nat → Bool) (f : Nat → Int) : Nat → List Int
  | 0 => []
  | k + 1 => if c k then acc c f k ++ [f k] else acc c f k
theorem acc_yes {c : Nat → Bool} {f : Nat → Int} {k : Nat} (h : c k = true) : acc c f (k + 1) = acc c f k ++ [f k] := by simp [acc, h]
theorem acc_no {c : Nat → Bool} {f : Nat → Int} {k : Nat} (h : c k = false) : acc c f (k + 1) = acc c f k := by simp [acc, h]
theorem acc_len (c : Nat → Bool) (f : Nat → Int) : ∀ k, (acc c f k).length ≤ k
  | 0 => Nat.le_refl _
  | k + 1 => by
    have := acc_len c f k
    simp only [acc]
    split
    · simp; omega
    · omega

def xs (A B : Nat → ByteArray) (m k : Nat) : List Int := acc (fun x => isIn B m (A x)) (fun x => x) k
def hA (A B : Nat → ByteArray) (n m k : Nat) : List Int := acc (fun x => isIn B m (A x)) (fun x => num A n (A x)) k
def ys (A B : Nat → ByteArray) (n k : Nat) : List Int := acc (fun y => isIn A n (B y)) (fun y => y) k
def hB (A B : Nat → ByteArray) (n k : Nat) : List Int := acc (fun y => isIn A n (B y)) (fun y => num A n (B y)) k

/-- some line of B below k has number c -/
def seen (A B : Nat → ByteArray) (n : Nat) (c : Nat) : Nat → Bool
  | 0 => false
  | k + 1 => seen A B n c k || (isIn A n (B k) && num A n (B k) == c)

theorem seen_iff {A B : Nat → ByteArray} {n c : Nat} : ∀ {k : Nat}, seen A B n c k = true ↔ ∃ y, y < k ∧ isIn A n (B y) = true ∧ num A n (B y) = c
  | 0 => by simp [seen]
  | k + 1 => by
    simp only [seen, Bool.or_eq_true, Bool.and_eq_true, beq_iff_eq, seen_iff (k := k)]
    constructor
    · rintro (⟨y, h1, h2, h3⟩ | ⟨h2, h3⟩)
      · exact ⟨y, by omega, h2, h3⟩
      · exact ⟨k, by omega, h2, h3⟩
    · rintro ⟨y, h1, h2, h3⟩
      by_cases e : y = k
      · subst e; exact .inr ⟨h2, h3⟩
      · exact .inl ⟨y, by omega, h2, h3⟩

theorem isIn_iff {A : Nat → ByteArray} {n : Nat} {s : ByteArray} : isIn A n s = true ↔ ∃ i, i < n ∧ A i = s := by
  unfold isIn
  constructor
  · intro h
    cases hi : idx A s n with
    | none => rw [hi] at h; simp at h
    | some j => obtain ⟨h1, h2, _⟩ := idx_some hi; exact ⟨j, h1, h2⟩
  · rintro ⟨i, h1, h2⟩
    cases hi : idx A s n with
    | none => exact absurd h2 (idx_none hi i h1)
    | some j => rfl

/-- THE LAW: a line of A is held by B just where its number has been seen. -/
theorem held_iff {A B : Nat → ByteArray} {n m x : Nat} (hx : x < n) : seen A B n (num A n (A x)) m = isIn B m (A x) := by
  rw [Bool.eq_iff_iff, seen_iff, isIn_iff]
  have hin : isIn A n (A x) = true := isIn_iff.2 ⟨x, hx, rfl⟩
  constructor
  · rintro ⟨y, h1, h2, h3⟩
    refine ⟨y, h1, ?_⟩
    unfold isIn at hin h2
    cases h4 : idx A (B y) n with
    | none => rw [h4] at h2; simp at h2
    | some i =>
      cases h5 : idx A (A x) n with
      | none => rw [h5] at hin; simp at hin
      | some j =>
        rw [num_of h4, num_of h5] at h3
        exact num_inj h4 h5 h3
  · rintro ⟨y, h1, h2⟩
    exact ⟨y, h1, by rw [h2]; exact hin, by rw [h2]⟩

theorem num_lt {A : Nat → ByteArray} {n : Nat} {s : ByteArray} (h : isIn A n s = true) : num A n s < dc A n := by
  unfold isIn at h
  cases hi : idx A s n with
  | none => rw [hi] at h; simp at h
  | some j => rw [num_of hi]; exact dc_lt hi

end Go.Proofs.Qxb6601047a.Held
