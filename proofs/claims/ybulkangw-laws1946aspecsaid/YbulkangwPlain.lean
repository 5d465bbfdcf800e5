/-
  THE PLAIN LAW (no Go in sight): LMS positions, the distance to the next one, and when two LMS substrings are one.
-/
namespace Go.Proofs.Ybulkangw

/-- Position k + 1 is an LMS position: smaller there, larger before. -/
def isL (S : Nat → Bool) (k : Nat) : Bool := S (k + 1) && !S k

/-- The next LMS position behind p is p + k + 1. -/
def Nx (S : Nat → Bool) (p k : Nat) : Prop := isL S (p + k) = true ∧ ∀ j, j < k → isL S (p + j) = false

/-- A text of m + 1 symbols that 'zzs1946abuild' makes: the last symbol is -1 and occurs nowhere else; the last position is an LMS position. -/
structure Wf (m : Nat) (T : Nat → Int) (S : Nat → Bool) : Prop where
  pos : 1 ≤ m
  last : T m = -1
  low : ∀ i, i < m → 0 ≤ T i
  yes : S m = true
  no : S (m - 1) = false

theorem Wf.end_ {m : Nat} {T : Nat → Int} {S : Nat → Bool} (h : Wf m T S) (k : Nat) (hk : k + 1 = m) : isL S k = true := by
  have h1 := h.yes
  have h2 := h.no
  have e : m - 1 = k := by omega
  rw [e] at h2
  rw [← hk] at h1
  simp [isL, h1, h2]

theorem nx_ex {m : Nat} {T : Nat → Int} {S : Nat → Bool} (h : Wf m T S) (p : Nat) (hp : p < m) : ∃ k, Nx S p k ∧ p + k + 1 ≤ m := by
  have key : ∀ f k, p + k + 1 + f = m → (∀ j, j < k → isL S (p + j) = false) → ∃ k, Nx S p k ∧ p + k + 1 ≤ m := by
    intro f
    induction f with
    | zero =>
      intro k hk hj
      exact ⟨k, ⟨h.end_ _ (by omega), hj⟩, by omega⟩
    | succ f ih =>
      intro k hk hj
      cases hl : isL S (p + k)
      · refine ih (k + 1) (by omega) fun j hjk => ?_
        by_cases e : j = k
        · subst e; exact hl
        · exact hj j (by omega)
      · exact ⟨k, ⟨hl, hj⟩, by omega⟩
  exact key (m - p - 1) 0 (by omega) (fun j hj => absurd hj (Nat.not_lt_zero _))

/-- What 'sameLMS' answers. -/
def Ans (T : Nat → Int) (S : Nat → Bool) (a b : Nat) (r : Bool) : Prop :=
  ∀ ka kb, Nx S a ka → Nx S b kb → (r = true ↔ ka = kb ∧ ∀ i, i ≤ ka + 1 → T (a + i) = T (b + i))

/-- What holds at the head of round d. -/
structure Inv (m : Nat) (T : Nat → Int) (S : Nat → Bool) (a b d : Nat) : Prop where
  la : a + d ≤ m
  lb : b + d ≤ m
  eq : ∀ i, i < d → T (a + i) = T (b + i)
  na : ∀ j, j + 1 < d → isL S (a + j) = false
  nb : ∀ j, j + 1 < d → isL S (b + j) = false

theorem Inv.start {m : Nat} {T : Nat → Int} {S : Nat → Bool} {a b : Nat} (ha : a < m) (hb : b < m) : Inv m T S a b 0 :=
  ⟨by omega, by omega, fun _ h => absurd h (Nat.not_lt_zero _), fun _ h => absurd h (by omega), fun _ h => absurd h (by omega)⟩

theorem Inv.ge {S : Nat → Bool} {a d ka : Nat} (na : ∀ j, j + 1 < d → isL S (a + j) = false) (h : Nx S a ka) : d ≤ ka + 1 := by
  by_cases hl : ka + 1 < d
  · have := na ka hl; rw [h.1] at this; cases this
  · omega

theorem Inv.differ {m : Nat} {T : Nat → Int} {S : Nat → Bool} {a b d : Nat} (h : Inv m T S a b d) (hne : ¬ T (a + d) = T (b + d)) : Ans T S a b false := by
  intro ka kb ha hb
  have := Inv.ge h.na ha
  constructor
  · intro e; cases e
  · rintro ⟨_, hT⟩
    exact absurd (hT d (by omega)) hne

theorem nx_at {S : Nat → Bool} {a e ka : Nat} (h : Nx S a ka) (hge : e ≤ ka) : isL S (a + e) = decide (ka = e) := by
  by_cases he : ka = e
  · subst he; rw [h.1]; simp
  · rw [h.2 e (by omega)]; simp [he]

theorem Inv.ended {m : Nat} {T : Nat → Int} {S : Nat → Bool} {a b e : Nat} (h : Inv m T S a b (e + 1)) (heq : T (a + (e + 1)) = T (b + (e + 1))) (hend : (isL S (a + e) || isL S (b + e)) = true) :
    Ans T S a b (isL S (a + e) && isL S (b + e)) := by
  intro ka kb ha hb
  have ga := Inv.ge h.na ha
  have gb := Inv.ge h.nb hb
  rw [nx_at ha (by omega), nx_at hb (by omega)] at hend ⊢
  simp only [Bool.or_eq_true, Bool.and_eq_true, decide_eq_true_eq] at hend ⊢
  constructor
  · rintro ⟨e1, e2⟩
    refine ⟨by omega, fun i hi => ?_⟩
    by_cases hie : i = e + 1
    · subst hie; exact heq
    · exact h.eq i (by omega)
  · rintro ⟨e1, _⟩
    omega

theorem Inv.next0 {m : Nat} {T : Nat → Int} {S : Nat → Bool} {a b : Nat} (ha : a < m) (hb : b < m) (heq : T a = T b) : Inv m T S a b 1 :=
  ⟨by omega, by omega, fun i h => by obtain rfl : i = 0 := by omega
                                     exact heq, fun _ h => absurd h (by omega), fun _ h => absurd h (by omega)⟩

theorem Inv.next {m : Nat} {T : Nat → Int} {S : Nat → Bool} {a b e : Nat} (wf : Wf m T S) (h : Inv m T S a b (e + 1)) (heq : T (a + (e + 1)) = T (b + (e + 1))) (na : isL S (a + e) = false) (nb : isL S (b + e) = false) :
    Inv m T S a b (e + 2) := by
  have la := h.la
  have lb := h.lb
  have ea : a + e + 1 ≠ m := fun e1 => by rw [wf.end_ _ e1] at na; cases na
  have eb : b + e + 1 ≠ m := fun e1 => by rw [wf.end_ _ e1] at nb; cases nb
  refine ⟨by omega, by omega, fun i hi => ?_, fun j hj => ?_, fun j hj => ?_⟩
  · by_cases hie : i = e + 1
    · subst hie; exact heq
    · exact h.eq i (by omega)
  · by_cases hje : j = e
    · subst hje; exact na
    · exact h.na j (by omega)
  · by_cases hje : j = e
    · subst hje; exact nb
    · exact h.nb j (by omega)

theorem ans_self {m : Nat} {T : Nat → Int} {S : Nat → Bool} (wf : Wf m T S) {a : Nat} (ha : a < m) {r : Bool} (h : Ans T S a a r) : r = true := by
  obtain ⟨k, hk, _⟩ := nx_ex wf a ha
  exact (h k k hk hk).2 ⟨rfl, fun _ _ => rfl⟩

theorem ans_sym {m : Nat} {T : Nat → Int} {S : Nat → Bool} (wf : Wf m T S) {a b : Nat} (ha : a < m) (hb : b < m) {r s : Bool} (h : Ans T S a b r) (g : Ans T S b a s) : r = s := by
  obtain ⟨ka, hka, _⟩ := nx_ex wf a ha
  obtain ⟨kb, hkb, _⟩ := nx_ex wf b hb
  have h1 := h ka kb hka hkb
  have h2 := g kb ka hkb hka
  rw [Bool.eq_iff_iff, h1, h2]
  constructor
  · rintro ⟨e, hT⟩; subst e; exact ⟨rfl, fun i hi => (hT i hi).symm⟩
  · rintro ⟨e, hT⟩; subst e; exact ⟨rfl, fun i hi => (hT i hi).symm⟩

/-- One step of the search for the next LMS position. -/
theorem nx_step {m : Nat} {T : Nat → Int} {S : Nat → Bool} (wf : Wf m T S) {p k : Nat} (hk : p + k + 1 ≤ m) (hl : isL S (p + k) = false) (hN : ∀ j, j < k → isL S (p + j) = false) :
    p + (k + 1) + 1 ≤ m ∧ ∀ j, j < k + 1 → isL S (p + j) = false := by
  have ea : p + k + 1 ≠ m := fun e1 => by rw [wf.end_ _ e1] at hl; cases hl
  refine ⟨by omega, fun j hj => ?_⟩
  by_cases hje : j = k
  · subst hje; exact hl
  · exact hN j (by omega)

theorem isL_no1 {S : Nat → Bool} {k : Nat} (h : S (k + 1) = false) : isL S k = false := by simp [isL, h]
theorem isL_no0 {S : Nat → Bool} {k : Nat} (h : S k = true) : isL S k = false := by simp [isL, h]
theorem isL_yes {S : Nat → Bool} {k : Nat} (h : S (k + 1) = true) (h0 : S k = false) : isL S k = true := by simp [isL, h, h0]

end Go.Proofs.Ybulkangw
