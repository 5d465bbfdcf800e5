/-
  THE PLAIN LAW (no Go in sight): the automaton of 'zzs1949cmodel', and the stages of 'scanNumber' said in its words.
-/
namespace Go.Proofs.Ybulkanim

/-- A digit. -/
def dig (c : Int) : Prop := 48 ≤ c ∧ c ≤ 57

/-- The automaton's step. -/
def nx (s : Nat) (c : Int) : Option Nat :=
  match s with
  | 0 => if c = 45 then some 1 else if c = 48 then some 2 else if 48 ≤ c ∧ c ≤ 57 then some 3 else none
  | 1 => if c = 48 then some 2 else if 48 ≤ c ∧ c ≤ 57 then some 3 else none
  | 2 => if c = 46 then some 4 else if c = 101 ∨ c = 69 then some 6 else none
  | 3 => if 48 ≤ c ∧ c ≤ 57 then some 3 else if c = 46 then some 4 else if c = 101 ∨ c = 69 then some 6 else none
  | 4 => if 48 ≤ c ∧ c ≤ 57 then some 5 else none
  | 5 => if 48 ≤ c ∧ c ≤ 57 then some 5 else if c = 101 ∨ c = 69 then some 6 else none
  | 6 => if c = 43 ∨ c = 45 then some 7 else if 48 ≤ c ∧ c ≤ 57 then some 8 else none
  | 7 => if 48 ≤ c ∧ c ≤ 57 then some 8 else none
  | 8 => if 48 ≤ c ∧ c ≤ 57 then some 8 else none
  | _ => none

def acc (s : Nat) : Bool := s == 2 || s == 3 || s == 5 || s == 8

def run (D : Nat → Int) (n : Nat) : Nat → Nat → Nat → Nat × Nat
  | 0, s, i => (s, i)
  | f + 1, s, i => if i < n then (match nx s (D i) with | none => (s, i) | some s' => run D n f s' (i + 1)) else (s, i)

/-- Where the automaton ends that stands in state s at place i. -/
def R (D : Nat → Int) (n s i : Nat) : Nat × Nat := run D n (n - i) s i

theorem R_end {D : Nat → Int} {n s i : Nat} (h : n ≤ i) : R D n s i = (s, i) := by
  unfold R
  rw [show n - i = 0 by omega]
  rfl

theorem R_none {D : Nat → Int} {n s i : Nat} (h : i < n) (hx : nx s (D i) = none) : R D n s i = (s, i) := by
  unfold R
  rw [show n - i = (n - i - 1) + 1 by omega]
  simp [run, h, hx]

theorem R_some {D : Nat → Int} {n s t i : Nat} (h : i < n) (hx : nx s (D i) = some t) : R D n s i = R D n t (i + 1) := by
  unfold R
  rw [show n - i = (n - (i + 1)) + 1 by omega]
  simp [run, h, hx]

theorem R_stop {D : Nat → Int} {n s i : Nat} (hx : i < n → nx s (D i) = none) : R D n s i = (s, i) := by
  by_cases h : i < n
  · exact R_none h (hx h)
  · exact R_end (by omega)

/-- The digits from i on end at k. -/
structure DE (D : Nat → Int) (n i k : Nat) : Prop where
  ge : i ≤ k
  le : k ≤ n
  all : ∀ j, i ≤ j → j < k → dig (D j)
  stop : k < n → ¬ dig (D k)

theorem R_digits {D : Nat → Int} {n s : Nat} (hs : ∀ c, dig c → nx s c = some s) {i k : Nat} (hk : k ≤ n) (hik : i ≤ k) (h : ∀ j, i ≤ j → j < k → dig (D j)) : R D n s i = R D n s k := by
  obtain ⟨m, rfl⟩ : ∃ m, k = i + m := ⟨k - i, by omega⟩
  clear hik
  induction m with
  | zero => rfl
  | succ m ih =>
    rw [ih (by omega) (fun j h1 h2 => h j h1 (by omega))]
    exact R_some (by omega) (hs _ (h _ (by omega) (by omega)))

theorem dig3 (c : Int) (h : dig c) : nx 3 c = some 3 := if_pos h
theorem dig5 (c : Int) (h : dig c) : nx 5 c = some 5 := if_pos h
theorem dig8 (c : Int) (h : dig c) : nx 8 c = some 8 := if_pos h

/-! ### The stages of 'scanNumber' -/

structure StA (D : Nat → Int) (n p s i : Nat) : Prop where
  st : s = 0 ∨ s = 1
  le : i ≤ n
  eq : R D n s i = R D n 0 p
  no : s = 0 → i < n → D i ≠ 45

structure StB (D : Nat → Int) (n p s i : Nat) : Prop where
  st : s = 2 ∨ s = 3
  le : i ≤ n
  eq : R D n s i = R D n 0 p
  no : s = 3 → i < n → ¬ dig (D i)

structure StC (D : Nat → Int) (n p s i : Nat) : Prop where
  st : s = 2 ∨ s = 3 ∨ s = 5
  le : i ≤ n
  eq : R D n s i = R D n 0 p
  no : i < n → D i ≠ 46 ∨ s = 5
  nd : s ≠ 2 → i < n → ¬ dig (D i)

structure StE (D : Nat → Int) (n p s i : Nat) : Prop where
  st : s = 6 ∨ s = 7
  le : i ≤ n
  eq : R D n s i = R D n 0 p
  no : s = 6 → i < n → D i ≠ 43 ∧ D i ≠ 45

/-- No number stands at p. -/
def Bad (D : Nat → Int) (n p : Nat) : Prop := acc (R D n 0 p).1 = false
/-- A number stands at p and ends at e. -/
def Good (D : Nat → Int) (n p e : Nat) : Prop := acc (R D n 0 p).1 = true ∧ (R D n 0 p).2 = e

variable {D : Nat → Int} {n p s i k : Nat}

theorem a_minus (hp : p < n) (h : D p = 45) : StA D n p 1 (p + 1) :=
  ⟨.inr rfl, by omega, (R_some hp (by simp [nx, h])).symm, fun e => absurd e (by omega)⟩

theorem a_none (hp : p ≤ n) (h : p < n → D p ≠ 45) : StA D n p 0 p := ⟨.inl rfl, hp, rfl, fun _ => h⟩

theorem b_zero (h : StA D n p s i) (hi : i < n) (h0 : D i = 48) : StB D n p 2 (i + 1) := by
  refine ⟨.inl rfl, by omega, ?_, fun e => absurd e (by omega)⟩
  rw [← h.eq]
  rcases h.st with rfl | rfl <;> exact (R_some hi (by simp [nx, h0])).symm

theorem b_digits (h : StA D n p s i) (h0 : i < n → D i ≠ 48) (hd : DE D n i k) (hik : i < k) : StB D n p 3 k := by
  refine ⟨.inr rfl, hd.le, ?_, fun _ => hd.stop⟩
  have di := hd.all i (Nat.le_refl _) hik
  have hin : i < n := by have := hd.le; omega
  have z := h0 hin
  rw [← h.eq, ← R_digits dig3 hd.le (by omega : i + 1 ≤ k) (fun j h1 h2 => hd.all j (by omega) h2)]
  unfold dig at di
  rcases h.st with rfl | rfl
  · exact (R_some hin (by simp [nx, z, di]; omega)).symm
  · exact (R_some hin (by simp [nx, z, di])).symm

theorem b_bad (h : StA D n p s i) (h0 : i < n → D i ≠ 48) (hd : DE D n i i) : Bad D n p := by
  have hst := hd.stop
  have hno := h.no
  unfold Bad
  rw [← h.eq]
  rcases h.st with rfl | rfl
  · rw [R_stop (fun hi => by have := hst hi; have := hno rfl hi; have := h0 hi; unfold dig at *; simp [nx, *])]
    rfl
  · rw [R_stop (fun hi => by have := hst hi; have := h0 hi; unfold dig at *; simp [nx, *])]
    rfl

theorem c_dot (h : StB D n p s i) (hi : i < n) (h0 : D i = 46) (hd : DE D n (i + 1) k) (hik : i + 1 < k) : StC D n p 5 k := by
  refine ⟨.inr (.inr rfl), hd.le, ?_, fun _ => .inr rfl, fun _ => hd.stop⟩
  have di := hd.all (i + 1) (Nat.le_refl _) hik
  have hin : i + 1 < n := by have := hd.le; omega
  rw [← h.eq, ← R_digits dig5 hd.le (by omega : i + 1 + 1 ≤ k) (fun j h1 h2 => hd.all j (by omega) h2)]
  have e4 : R D n 4 (i + 1) = R D n 5 (i + 1 + 1) := R_some hin (by simp only [nx]; exact if_pos di)
  rw [← e4]
  rcases h.st with rfl | rfl
  · exact (R_some hi (by simp [nx, h0])).symm
  · exact (R_some hi (by simp [nx, h0])).symm

theorem c_dotbad (h : StB D n p s i) (hi : i < n) (h0 : D i = 46) (hd : DE D n (i + 1) (i + 1)) : Bad D n p := by
  have hst := hd.stop
  unfold Bad
  rw [← h.eq]
  have e4 : R D n s i = R D n 4 (i + 1) := by
    rcases h.st with rfl | rfl
    · exact R_some hi (by simp [nx, h0])
    · exact R_some hi (by simp [nx, h0])
  rw [e4, R_stop (fun hi => by simp only [nx]; exact if_neg (hst hi))]
  rfl

theorem c_nodot (h : StB D n p s i) (h0 : i < n → D i ≠ 46) : StC D n p s i :=
  ⟨by rcases h.st with h | h <;> simp [h], h.le, h.eq, fun hi => .inl (h0 hi), fun hs => h.no (by rcases h.st with h | h; exact absurd h hs; exact h)⟩

theorem d_none (h : StC D n p s i) (h0 : i < n → D i ≠ 101 ∧ D i ≠ 69) : Good D n p i := by
  have e : R D n s i = (s, i) := by
    refine R_stop fun hi => ?_
    have ⟨a, b⟩ := h0 hi
    have c := h.no hi
    have d := h.nd
    rcases h.st with rfl | rfl | rfl
    · have c : D i ≠ 46 := by simpa using c
      simp [nx, a, b, c]
    · have c : D i ≠ 46 := by simpa using c
      have d := d (by omega) hi
      unfold dig at d
      simp [nx, a, b, c]; omega
    · have d := d (by omega) hi
      unfold dig at d
      simp [nx, a, b]; omega
  unfold Good
  rw [← h.eq, e]
  rcases h.st with rfl | rfl | rfl <;> exact ⟨rfl, rfl⟩

theorem e_step (h : StC D n p s i) (hi : i < n) (he : D i = 101 ∨ D i = 69) : R D n 6 (i + 1) = R D n 0 p := by
  rw [← h.eq]
  have d := h.nd
  rcases h.st with rfl | rfl | rfl
  · exact (R_some hi (by rcases he with he | he <;> simp [nx, he])).symm
  · exact (R_some hi (by rcases he with he | he <;> simp [nx, he])).symm
  · exact (R_some hi (by rcases he with he | he <;> simp [nx, he])).symm

theorem e_sign (h : StC D n p s i) (hi : i < n) (he : D i = 101 ∨ D i = 69) (hi1 : i + 1 < n) (hs : D (i + 1) = 43 ∨ D (i + 1) = 45) : StE D n p 7 (i + 2) := by
  refine ⟨.inr rfl, by omega, ?_, fun e => absurd e (by omega)⟩
  rw [← e_step h hi he]
  exact (R_some hi1 (by simp only [nx]; exact if_pos hs)).symm

theorem e_nosign (h : StC D n p s i) (hi : i < n) (he : D i = 101 ∨ D i = 69) (hs : i + 1 < n → D (i + 1) ≠ 43 ∧ D (i + 1) ≠ 45) : StE D n p 6 (i + 1) :=
  ⟨.inl rfl, by omega, e_step h hi he, fun _ => hs⟩

theorem f_bad (h : StE D n p s i) (hd : DE D n i i) : Bad D n p := by
  have hst := hd.stop
  have hno := h.no
  unfold Bad
  rw [← h.eq]
  rcases h.st with rfl | rfl
  · rw [R_stop (fun hi => by have := hst hi; have := hno rfl hi; unfold dig at *; simp [nx, *])]
    rfl
  · rw [R_stop (fun hi => by have := hst hi; unfold dig at *; simp [nx]; omega)]
    rfl

theorem f_ok (h : StE D n p s i) (hd : DE D n i k) (hik : i < k) : Good D n p k := by
  have di := hd.all i (Nat.le_refl _) hik
  have hin : i < n := by have := hd.le; omega
  have e : R D n s i = (8, k) := by
    have e8 : R D n s i = R D n 8 (i + 1) := by
      have hno := h.no
      rcases h.st with rfl | rfl
      · have ⟨a, b⟩ := hno rfl hin
        exact R_some hin (by simp only [nx]; rw [if_neg (by simp [a, b])]; exact if_pos di)
      · exact R_some hin (by simp only [nx]; exact if_pos di)
    rw [e8, R_digits dig8 hd.le (by omega : i + 1 ≤ k) (fun j h1 h2 => hd.all j (by omega) h2)]
    exact R_stop (fun hk => by simp only [nx]; exact if_neg (hd.stop hk))
  unfold Good
  rw [← h.eq, e]
  exact ⟨rfl, rfl⟩

end Go.Proofs.Ybulkanim
