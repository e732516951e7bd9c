/-
  PLAIN LAWS for the seat b6601983a: no Go in sight. 'z : Nat → Int': a text's bytes by their places.
-/
namespace Go.Proofs.Qxb6601983a.Plain

/-- ASCII punctuation, as artifact.isPunct has it. -/
def punctB (c : Int) : Bool := (decide (33 ≤ c) && decide (c ≤ 47)) || (decide (58 ≤ c) && decide (c ≤ 64)) || (decide (91 ≤ c) && decide (c ≤ 96)) || (decide (123 ≤ c) && decide (c ≤ 126))

/-- Is the number of backslashes right before place 'lo + d', counted back to 'lo', odd? -/
def escD (z : Nat → Int) (lo : Nat) : Nat → Bool
  | 0 => false
  | d + 1 => decide (z (lo + d) = 92) && !escD z lo d

def esc (z : Nat → Int) (lo k : Nat) : Bool := escD z lo (k - lo)

theorem esc_self (z : Nat → Int) (lo : Nat) : esc z lo lo = false := by simp [esc, escD]

theorem esc_succ (z : Nat → Int) (lo k : Nat) (h : lo ≤ k) : esc z lo (k + 1) = (decide (z k = 92) && !esc z lo k) := by
  unfold esc
  have e : k + 1 - lo = (k - lo) + 1 := by omega
  rw [e]
  show (decide (z (lo + (k - lo)) = 92) && !escD z lo (k - lo)) = _
  rw [show lo + (k - lo) = k from by omega]

theorem esc_plain (z : Nat → Int) (lo k : Nat) (h : lo ≤ k) (hz : z k ≠ 92) : esc z lo (k + 1) = false := by
  rw [esc_succ z lo k h]; simp [hz]

theorem esc_back (z : Nat → Int) (lo k : Nat) (h : lo ≤ k) (hz : z k = 92) : esc z lo (k + 1) = !esc z lo k := by
  rw [esc_succ z lo k h]; simp [hz]

/-- A walk's count of backslashes, from place k downwards: p: where it stands; cnt: how many it has met. -/
def Run (z : Nat → Int) (lo k p cnt : Nat) : Prop := lo ≤ p ∧ p + cnt = k ∧ esc z lo k = (esc z lo p != decide (cnt % 2 = 1))

theorem run_start (z : Nat → Int) (lo k : Nat) (h : lo ≤ k) : Run z lo k k 0 := ⟨h, rfl, by simp⟩

theorem run_step (z : Nat → Int) (lo k q cnt : Nat) (h : Run z lo k (q + 1) cnt) (hl : lo ≤ q) (hz : z q = 92) : Run z lo k q (cnt + 1) := by
  obtain ⟨_, h2, h3⟩ := h
  refine ⟨hl, by omega, ?_⟩
  rw [h3, esc_back z lo q hl hz]
  by_cases hc : cnt % 2 = 1
  · have : ¬ (cnt + 1) % 2 = 1 := by omega
    cases esc z lo q <;> simp [hc, this]
  · have : (cnt + 1) % 2 = 1 := by omega
    cases esc z lo q <;> simp [hc, this]

theorem run_end (z : Nat → Int) (lo k p cnt : Nat) (h : Run z lo k p cnt) (he : p = lo ∨ ∃ q, p = q + 1 ∧ lo ≤ q ∧ z q ≠ 92) : esc z lo k = decide (cnt % 2 = 1) := by
  obtain ⟨_, _, h3⟩ := h
  have : esc z lo p = false := by
    rcases he with rfl | ⟨q, rfl, hl, hz⟩
    · exact esc_self _ _
    · exact esc_plain z lo q hl hz
  rw [h3, this]; simp

/-! ### Titles -/
/-- A place at which the title's reading ends. -/
def TStop (z : Nat → Int) (i : Nat) (cl : Int) (k : Nat) : Prop := (z k = cl ∨ (cl = 41 ∧ z k = 40)) ∧ esc z (i + 1) k = false

/-- No place after i and before j ends it. -/
def TNone (z : Nat → Int) (i : Nat) (cl : Int) (j : Nat) : Prop := ∀ k, i < k → k < j → ¬ TStop z i cl k

def TRes (z : Nat → Int) (n i : Nat) (cl e : Int) (ok : Bool) : Prop :=
  (∃ k, i < k ∧ k < n ∧ TStop z i cl k ∧ TNone z i cl k ∧ ((z k = cl ∧ e = (k : Int) + 1 ∧ ok = true) ∨ (z k ≠ cl ∧ e = 0 ∧ ok = false))) ∨ (TNone z i cl n ∧ e = 0 ∧ ok = false)

theorem tres_unique {z : Nat → Int} {n i : Nat} {cl e e' : Int} {ok ok' : Bool} (h : TRes z n i cl e ok) (h' : TRes z n i cl e' ok') : e = e' ∧ ok = ok' := by
  rcases h with ⟨k, h1, h2, h3, h4, h5⟩ | ⟨h4, h5, h6⟩ <;> rcases h' with ⟨k', g1, g2, g3, g4, g5⟩ | ⟨g4, g5, g6⟩
  · have : k = k' := by
      rcases Nat.lt_trichotomy k k' with h | h | h
      · exact absurd h3 (g4 k h1 h)
      · exact h
      · exact absurd g3 (h4 k' g1 h)
    subst this
    rcases h5 with ⟨a, b, c⟩ | ⟨a, b, c⟩ <;> rcases g5 with ⟨a', b', c'⟩ | ⟨a', b', c'⟩
    · exact ⟨b.trans b'.symm, c.trans c'.symm⟩
    · exact absurd a a'
    · exact absurd a' a
    · exact ⟨b.trans b'.symm, c.trans c'.symm⟩
  · exact absurd h3 (g4 k h1 h2)
  · exact absurd g3 (h4 k' g1 g2)
  · exact ⟨h5.trans g5.symm, h6.trans g6.symm⟩

theorem tnone_start (z : Nat → Int) (i : Nat) (cl : Int) : TNone z i cl (i + 1) := fun k h1 h2 => by omega

theorem tnone_step {z : Nat → Int} {i j : Nat} {cl : Int} (h : TNone z i cl j) (hs : ¬ TStop z i cl j) : TNone z i cl (j + 1) := by
  intro k h1 h2
  by_cases e : k = j
  · subst e; exact hs
  · exact h k h1 (by omega)

/-- The three closing characters. -/
def Closing (cl : Int) : Prop := cl = 34 ∨ cl = 39 ∨ cl = 41

/-- WHAT THE CODE's LOOP HOLDS at place j. -/
def TRel (z : Nat → Int) (n i : Nat) (cl : Int) (j : Nat) : Prop := i + 1 ≤ j ∧ j ≤ n ∧ TNone z i cl j ∧ (esc z (i + 1) j = false ∨ (j < n → punctB (z j) = false))

theorem trel_start {z : Nat → Int} {n i : Nat} (cl : Int) (h : i < n) : TRel z n i cl (i + 1) := ⟨by omega, by omega, tnone_start _ _ _, .inl (esc_self _ _)⟩

theorem trel_end {z : Nat → Int} {n i j : Nat} {cl : Int} (h : TRel z n i cl j) (hj : ¬ j < n) : TRes z n i cl 0 false := by
  obtain ⟨h1, h2, h3, _⟩ := h
  obtain rfl : j = n := by omega
  exact .inr ⟨h3, rfl, rfl⟩

theorem punct_92 : punctB 92 = true := by decide
theorem punct_of_closing {cl : Int} (h : Closing cl) : punctB cl = true := by rcases h with rfl | rfl | rfl <;> decide
theorem punct_40 : punctB 40 = true := by decide

/-- the byte at j is one that would end the title or begin an escape: then it is not escaped -/
theorem trel_free {z : Nat → Int} {n i j : Nat} {cl : Int} (h : TRel z n i cl j) (hj : j < n) (hp : punctB (z j) = true) : esc z (i + 1) j = false := by
  obtain ⟨h1, h2, h3, h4 | h4⟩ := h
  · exact h4
  · rw [h4 hj] at hp; cases hp

theorem trel_escape {z : Nat → Int} {n i j : Nat} {cl : Int} (hcl : Closing cl) (h : TRel z n i cl j) (hj : j + 1 < n) (hz : z j = 92) : TRel z n i cl (j + 2) := by
  have hf := trel_free h (by omega) (by rw [hz]; decide)
  obtain ⟨h1, h2, h3, h4⟩ := h
  have e1 : esc z (i + 1) (j + 1) = true := by rw [esc_back z _ j (by omega) hz, hf]; rfl
  have n1 : ¬ TStop z i cl j := by
    rintro ⟨a | ⟨_, a⟩, _⟩
    · rw [hz] at a; rcases hcl with rfl | rfl | rfl <;> simp at a
    · rw [hz] at a; simp at a
  have n2 : ¬ TStop z i cl (j + 1) := by
    rintro ⟨_, a⟩
    rw [e1] at a; cases a
  refine ⟨by omega, by omega, tnone_step (tnone_step h3 n1) n2, .inl ?_⟩
  rw [esc_succ z (i + 1) (j + 1) (by omega), e1]; simp

theorem trel_back {z : Nat → Int} {n i j : Nat} {cl : Int} (hcl : Closing cl) (h : TRel z n i cl j) (hj : j < n) (hz : z j = 92) (hp : j + 1 < n → punctB (z (j + 1)) = false) : TRel z n i cl (j + 1) := by
  obtain ⟨h1, h2, h3, h4⟩ := h
  have n1 : ¬ TStop z i cl j := by
    rintro ⟨a | ⟨_, a⟩, _⟩
    · rw [hz] at a; rcases hcl with rfl | rfl | rfl <;> simp at a
    · rw [hz] at a; simp at a
  exact ⟨by omega, by omega, tnone_step h3 n1, .inr hp⟩

theorem trel_pass {z : Nat → Int} {n i j : Nat} {cl : Int} (h : TRel z n i cl j) (hj : j < n) (hz : z j ≠ 92) (h1 : z j ≠ cl) (h2 : cl = 41 → z j ≠ 40) : TRel z n i cl (j + 1) := by
  obtain ⟨a1, a2, a3, a4⟩ := h
  have n1 : ¬ TStop z i cl j := by
    rintro ⟨a | ⟨b, a⟩, _⟩
    · exact h1 a
    · exact h2 b a
  exact ⟨by omega, by omega, tnone_step a3 n1, .inl (esc_plain z _ j (by omega) hz)⟩

theorem trel_hit {z : Nat → Int} {n i j : Nat} {cl : Int} (hcl : Closing cl) (h : TRel z n i cl j) (hj : j < n) (hz : z j = cl) : TRes z n i cl ((j : Int) + 1) true := by
  have hf := trel_free h hj (by rw [hz]; exact punct_of_closing hcl)
  obtain ⟨a1, a2, a3, a4⟩ := h
  exact .inl ⟨j, by omega, hj, ⟨.inl hz, hf⟩, a3, .inl ⟨hz, rfl, rfl⟩⟩

theorem trel_no {z : Nat → Int} {n i j : Nat} (h : TRel z n i 41 j) (hj : j < n) (hz : z j = 40) : TRes z n i 41 0 false := by
  have hf := trel_free h hj (by rw [hz]; decide)
  obtain ⟨a1, a2, a3, a4⟩ := h
  exact .inl ⟨j, by omega, hj, ⟨.inr ⟨rfl, hz⟩, hf⟩, a3, .inr ⟨by rw [hz]; decide, rfl, rfl⟩⟩

/-! The model's loop: 'TNone' alone. -/
theorem tmod_end {z : Nat → Int} {n i k : Nat} {cl : Int} (h : TNone z i cl k) (hk : k ≤ n) (hn : ¬ k < n) : TRes z n i cl 0 false := by
  obtain rfl : k = n := by omega
  exact .inr ⟨h, rfl, rfl⟩

theorem tmod_pass {z : Nat → Int} {i k : Nat} {cl : Int} (h : TNone z i cl k) (h1 : z k ≠ cl) (h2 : cl = 41 → z k ≠ 40) : TNone z i cl (k + 1) :=
  tnone_step h (by rintro ⟨a | ⟨b, a⟩, _⟩; exact h1 a; exact h2 b a)

theorem tmod_esc {z : Nat → Int} {i k : Nat} {cl : Int} (h : TNone z i cl k) (he : esc z (i + 1) k = true) : TNone z i cl (k + 1) :=
  tnone_step h (by rintro ⟨_, a⟩; rw [he] at a; cases a)

theorem tmod_hit {z : Nat → Int} {n i k : Nat} {cl : Int} (h : TNone z i cl k) (hi : i < k) (hk : k < n) (hz : z k = cl) (he : esc z (i + 1) k = false) : TRes z n i cl ((k : Int) + 1) true :=
  .inl ⟨k, hi, hk, ⟨.inl hz, he⟩, h, .inl ⟨hz, rfl, rfl⟩⟩

theorem tmod_no {z : Nat → Int} {n i k : Nat} {cl : Int} (hcl : cl = 41) (h : TNone z i cl k) (hi : i < k) (hk : k < n) (hz : z k = 40) (he : esc z (i + 1) k = false) : TRes z n i cl 0 false :=
  .inl ⟨k, hi, hk, ⟨.inr ⟨hcl, hz⟩, he⟩, h, .inr ⟨by rw [hz, hcl]; decide, rfl, rfl⟩⟩

end Go.Proofs.Qxb6601983a.Plain
