/-
  PLAIN LAWS for link destinations (seat b6601983a): no Go in sight.
-/
import Derived.Test.Qxb6601983aPlain
namespace Go.Proofs.Qxb6601983a.Plain

/-- No place from lo on and before j stops the reading. -/
def NoneIn (S : Nat → Prop) (lo j : Nat) : Prop := ∀ k, lo ≤ k → k < j → ¬ S k

/-- The answer of a reading that goes on to its first stop: A: the answer at a stop; E: the answer where there is none. -/
def FRes (S : Nat → Prop) (A : Nat → Int → Bool → Prop) (E : Int → Bool → Prop) (lo n : Nat) (e : Int) (ok : Bool) : Prop :=
  (∃ k, lo ≤ k ∧ k < n ∧ S k ∧ NoneIn S lo k ∧ A k e ok) ∨ (NoneIn S lo n ∧ E e ok)

theorem fres_unique {S : Nat → Prop} {A : Nat → Int → Bool → Prop} {E : Int → Bool → Prop} {lo n : Nat} {e e' : Int} {ok ok' : Bool}
    (hA : ∀ k e ok e' ok', A k e ok → A k e' ok' → e = e' ∧ ok = ok') (hE : ∀ e ok e' ok', E e ok → E e' ok' → e = e' ∧ ok = ok')
    (h : FRes S A E lo n e ok) (h' : FRes S A E lo n e' ok') : e = e' ∧ ok = ok' := by
  rcases h with ⟨k, h1, h2, h3, h4, h5⟩ | ⟨h4, h5⟩ <;> rcases h' with ⟨k', g1, g2, g3, g4, g5⟩ | ⟨g4, g5⟩
  · have : k = k' := by
      rcases Nat.lt_trichotomy k k' with h | h | h
      · exact absurd h3 (g4 k h1 h)
      · exact h
      · exact absurd g3 (h4 k' g1 h)
    subst this
    exact hA _ _ _ _ _ h5 g5
  · exact absurd h3 (g4 k h1 h2)
  · exact absurd g3 (h4 k' g1 g2)
  · exact hE _ _ _ _ h5 g5

theorem none_start (S : Nat → Prop) (lo : Nat) : NoneIn S lo lo := fun k h1 h2 => by omega

theorem none_step {S : Nat → Prop} {lo j : Nat} (h : NoneIn S lo j) (hs : ¬ S j) : NoneIn S lo (j + 1) := by
  intro k h1 h2
  by_cases e : k = j
  · subst e; exact hs
  · exact h k h1 (by omega)

/-! ### The angle form -/
def AStop (z : Nat → Int) (i k : Nat) : Prop := z k = 10 ∨ ((z k = 60 ∨ z k = 62) ∧ esc z (i + 1) k = false)
def AAns (z : Nat → Int) (k : Nat) (e : Int) (ok : Bool) : Prop := (z k = 62 ∧ e = (k : Int) + 1 ∧ ok = true) ∨ (z k ≠ 62 ∧ e = 0 ∧ ok = false)
def NoAns (e : Int) (ok : Bool) : Prop := e = 0 ∧ ok = false
def ARes (z : Nat → Int) (n i : Nat) (e : Int) (ok : Bool) : Prop := FRes (AStop z i) (AAns z) NoAns (i + 1) n e ok

theorem ares_unique {z : Nat → Int} {n i : Nat} {e e' : Int} {ok ok' : Bool} (h : ARes z n i e ok) (h' : ARes z n i e' ok') : e = e' ∧ ok = ok' := by
  refine fres_unique ?_ ?_ h h'
  · rintro k e ok e' ok' (⟨a, b, c⟩ | ⟨a, b, c⟩) (⟨a', b', c'⟩ | ⟨a', b', c'⟩)
    · exact ⟨b.trans b'.symm, c.trans c'.symm⟩
    · exact absurd a a'
    · exact absurd a' a
    · exact ⟨b.trans b'.symm, c.trans c'.symm⟩
  · rintro e ok e' ok' ⟨b, c⟩ ⟨b', c'⟩
    exact ⟨b.trans b'.symm, c.trans c'.symm⟩

/-- What the code's loop holds at place j. -/
def ARel (z : Nat → Int) (n i j : Nat) : Prop := i + 1 ≤ j ∧ j ≤ n ∧ NoneIn (AStop z i) (i + 1) j ∧ (esc z (i + 1) j = false ∨ (j < n → punctB (z j) = false))

theorem arel_start {z : Nat → Int} {n i : Nat} (h : i < n) : ARel z n i (i + 1) := ⟨by omega, by omega, none_start _ _, .inl (esc_self _ _)⟩

theorem arel_end {z : Nat → Int} {n i j : Nat} (h : ARel z n i j) (hj : ¬ j < n) : ARes z n i 0 false := by
  obtain ⟨h1, h2, h3, _⟩ := h
  obtain rfl : j = n := by omega
  exact .inr ⟨h3, rfl, rfl⟩

theorem arel_free {z : Nat → Int} {n i j : Nat} (h : ARel z n i j) (hj : j < n) (hp : punctB (z j) = true) : esc z (i + 1) j = false := by
  obtain ⟨h1, h2, h3, h4 | h4⟩ := h
  · exact h4
  · rw [h4 hj] at hp; cases hp

theorem astop_92 {z : Nat → Int} {i j : Nat} (hz : z j = 92) : ¬ AStop z i j := by
  rintro (a | ⟨a | a, _⟩) <;> rw [hz] at a <;> simp at a

theorem arel_escape {z : Nat → Int} {n i j : Nat} (h : ARel z n i j) (hj : j + 1 < n) (hz : z j = 92) (hp : punctB (z (j + 1)) = true) : ARel z n i (j + 2) := by
  have hf := arel_free h (by omega) (by rw [hz]; decide)
  obtain ⟨h1, h2, h3, h4⟩ := h
  have e1 : esc z (i + 1) (j + 1) = true := by rw [esc_back z _ j (by omega) hz, hf]; rfl
  have n2 : ¬ AStop z i (j + 1) := by
    rintro (a | ⟨_, a⟩)
    · rw [a] at hp; revert hp; decide
    · rw [e1] at a; cases a
  refine ⟨by omega, by omega, none_step (none_step h3 (astop_92 hz)) n2, .inl ?_⟩
  rw [esc_succ z (i + 1) (j + 1) (by omega), e1]; simp

theorem arel_back {z : Nat → Int} {n i j : Nat} (h : ARel z n i j) (hj : j < n) (hz : z j = 92) (hp : j + 1 < n → punctB (z (j + 1)) = false) : ARel z n i (j + 1) := by
  obtain ⟨h1, h2, h3, h4⟩ := h
  exact ⟨by omega, by omega, none_step h3 (astop_92 hz), .inr hp⟩

theorem arel_pass {z : Nat → Int} {n i j : Nat} (h : ARel z n i j) (hj : j < n) (hz : z j ≠ 92) (h1 : z j ≠ 10) (h2 : z j ≠ 60) (h3 : z j ≠ 62) : ARel z n i (j + 1) := by
  obtain ⟨a1, a2, a3, a4⟩ := h
  have n1 : ¬ AStop z i j := by
    rintro (a | ⟨a | a, _⟩)
    · exact h1 a
    · exact h2 a
    · exact h3 a
  exact ⟨by omega, by omega, none_step a3 n1, .inl (esc_plain z _ j (by omega) hz)⟩

theorem arel_line {z : Nat → Int} {n i j : Nat} (h : ARel z n i j) (hj : j < n) (hz : z j = 10) : ARes z n i 0 false :=
  .inl ⟨j, h.1, hj, .inl hz, h.2.2.1, .inr ⟨by rw [hz]; decide, rfl, rfl⟩⟩

theorem arel_less {z : Nat → Int} {n i j : Nat} (h : ARel z n i j) (hj : j < n) (hz : z j = 60) : ARes z n i 0 false :=
  .inl ⟨j, h.1, hj, .inr ⟨.inl hz, arel_free h hj (by rw [hz]; decide)⟩, h.2.2.1, .inr ⟨by rw [hz]; decide, rfl, rfl⟩⟩

theorem arel_hit {z : Nat → Int} {n i j : Nat} (h : ARel z n i j) (hj : j < n) (hz : z j = 62) : ARes z n i ((j : Int) + 1) true :=
  .inl ⟨j, h.1, hj, .inr ⟨.inr hz, arel_free h hj (by rw [hz]; decide)⟩, h.2.2.1, .inl ⟨hz, rfl, rfl⟩⟩

/-! the model's loop -/
theorem amod_end {z : Nat → Int} {n i k : Nat} (h : NoneIn (AStop z i) (i + 1) k) (hk : k ≤ n) (hn : ¬ k < n) : ARes z n i 0 false := by
  obtain rfl : k = n := by omega
  exact .inr ⟨h, rfl, rfl⟩

theorem amod_line {z : Nat → Int} {n i k : Nat} (h : NoneIn (AStop z i) (i + 1) k) (hi : i + 1 ≤ k) (hk : k < n) (hz : z k = 10) : ARes z n i 0 false :=
  .inl ⟨k, hi, hk, .inl hz, h, .inr ⟨by rw [hz]; decide, rfl, rfl⟩⟩

theorem amod_pass {z : Nat → Int} {i k : Nat} (h : NoneIn (AStop z i) (i + 1) k) (h1 : z k ≠ 10) (h2 : z k ≠ 60) (h3 : z k ≠ 62) : NoneIn (AStop z i) (i + 1) (k + 1) :=
  none_step h (by rintro (a | ⟨a | a, _⟩); exact h1 a; exact h2 a; exact h3 a)

theorem amod_esc {z : Nat → Int} {i k : Nat} (h : NoneIn (AStop z i) (i + 1) k) (h1 : z k ≠ 10) (he : esc z (i + 1) k = true) : NoneIn (AStop z i) (i + 1) (k + 1) :=
  none_step h (by rintro (a | ⟨_, a⟩); exact h1 a; rw [he] at a; cases a)

theorem amod_hit {z : Nat → Int} {n i k : Nat} (h : NoneIn (AStop z i) (i + 1) k) (hi : i + 1 ≤ k) (hk : k < n) (hz : z k = 62) (he : esc z (i + 1) k = false) : ARes z n i ((k : Int) + 1) true :=
  .inl ⟨k, hi, hk, .inr ⟨.inr hz, he⟩, h, .inl ⟨hz, rfl, rfl⟩⟩

theorem amod_less {z : Nat → Int} {n i k : Nat} (h : NoneIn (AStop z i) (i + 1) k) (hi : i + 1 ≤ k) (hk : k < n) (hz : z k = 60) (he : esc z (i + 1) k = false) : ARes z n i 0 false :=
  .inl ⟨k, hi, hk, .inr ⟨.inl hz, he⟩, h, .inr ⟨by rw [hz]; decide, rfl, rfl⟩⟩

/-! ### The plain form -/
/-- ASCII whitespace. -/
def whiteB (c : Int) : Bool := decide (c = 32) || (decide (9 ≤ c) && decide (c ≤ 13))

/-- How deep the unescaped parentheses nest before place i + d. -/
def depD (z : Nat → Int) (i : Nat) : Nat → Int
  | 0 => 0
  | d + 1 => depD z i d + (if esc z i (i + d) = true then 0 else if z (i + d) = 40 then 1 else if z (i + d) = 41 then -1 else 0)

def dep (z : Nat → Int) (i k : Nat) : Int := depD z i (k - i)

theorem dep_self (z : Nat → Int) (i : Nat) : dep z i i = 0 := by simp [dep, depD]

theorem dep_succ (z : Nat → Int) (i k : Nat) (h : i ≤ k) : dep z i (k + 1) = dep z i k + (if esc z i k = true then 0 else if z k = 40 then 1 else if z k = 41 then -1 else 0) := by
  unfold dep
  have e : k + 1 - i = (k - i) + 1 := by omega
  rw [e]
  show depD z i (k - i) + (if esc z i (i + (k - i)) = true then 0 else if z (i + (k - i)) = 40 then 1 else if z (i + (k - i)) = 41 then -1 else 0) = _
  rw [show i + (k - i) = k from by omega]

theorem dep_esc (z : Nat → Int) (i k : Nat) (h : i ≤ k) (he : esc z i k = true) : dep z i (k + 1) = dep z i k := by rw [dep_succ z i k h, if_pos he]; simp
theorem dep_other (z : Nat → Int) (i k : Nat) (h : i ≤ k) (h1 : z k ≠ 40) (h2 : z k ≠ 41) : dep z i (k + 1) = dep z i k := by
  rw [dep_succ z i k h, if_neg h1, if_neg h2]; simp
theorem dep_open (z : Nat → Int) (i k : Nat) (h : i ≤ k) (he : esc z i k = false) (hz : z k = 40) : dep z i (k + 1) = dep z i k + 1 := by
  rw [dep_succ z i k h, if_neg (by rw [he]; decide), if_pos hz]
theorem dep_close (z : Nat → Int) (i k : Nat) (h : i ≤ k) (he : esc z i k = false) (hz : z k = 41) : dep z i (k + 1) = dep z i k - 1 := by
  rw [dep_succ z i k h, if_neg (by rw [he]; decide), if_neg (by rw [hz]; decide), if_pos hz]; omega

theorem dep_bd (z : Nat → Int) (i k : Nat) (h : i ≤ k) : -((k : Int) - i) ≤ dep z i k ∧ dep z i k ≤ (k : Int) - i := by
  obtain ⟨d, rfl⟩ : ∃ d, k = i + d := ⟨k - i, by omega⟩
  clear h
  induction d with
  | zero => simp [dep, depD]
  | succ d ih =>
    have := dep_succ z i (i + d) (by omega)
    rw [show i + (d + 1) = i + d + 1 from rfl, this]
    clear this
    split
    · omega
    · split
      · omega
      · split <;> omega

def PStop (z : Nat → Int) (i k : Nat) : Prop := whiteB (z k) = true ∨ (z k = 40 ∧ esc z i k = false ∧ 32 < dep z i k + 1) ∨ (z k = 41 ∧ esc z i k = false ∧ dep z i k = 0)
def PAns (z : Nat → Int) (i k : Nat) (e : Int) (ok : Bool) : Prop :=
  (whiteB (z k) = true ∧ e = (k : Int) ∧ ok = decide (dep z i k = 0)) ∨ (z k = 40 ∧ e = 0 ∧ ok = false) ∨ (z k = 41 ∧ e = (k : Int) ∧ ok = true)
def PEnd (z : Nat → Int) (n i : Nat) (e : Int) (ok : Bool) : Prop := e = (n : Int) ∧ ok = decide (dep z i n = 0)
def PRes (z : Nat → Int) (n i : Nat) (e : Int) (ok : Bool) : Prop := FRes (PStop z i) (PAns z i) (PEnd z n i) i n e ok

theorem white_not_40 {c : Int} (h : whiteB c = true) : c ≠ 40 := by rintro rfl; revert h; decide
theorem white_not_41 {c : Int} (h : whiteB c = true) : c ≠ 41 := by rintro rfl; revert h; decide

theorem pres_unique {z : Nat → Int} {n i : Nat} {e e' : Int} {ok ok' : Bool} (h : PRes z n i e ok) (h' : PRes z n i e' ok') : e = e' ∧ ok = ok' := by
  refine fres_unique ?_ ?_ h h'
  · rintro k e ok e' ok' (⟨a, b, c⟩ | ⟨a, b, c⟩ | ⟨a, b, c⟩) (⟨a', b', c'⟩ | ⟨a', b', c'⟩ | ⟨a', b', c'⟩)
    · exact ⟨b.trans b'.symm, c.trans c'.symm⟩
    · exact absurd a' (white_not_40 a)
    · exact absurd a' (white_not_41 a)
    · exact absurd a (white_not_40 a')
    · exact ⟨b.trans b'.symm, c.trans c'.symm⟩
    · omega
    · exact absurd a (white_not_41 a')
    · omega
    · exact ⟨b.trans b'.symm, c.trans c'.symm⟩
  · rintro e ok e' ok' ⟨b, c⟩ ⟨b', c'⟩
    exact ⟨b.trans b'.symm, c.trans c'.symm⟩

/-- What the code's loop holds at place j, depth d. -/
def PRel (z : Nat → Int) (n i j : Nat) (d : Int) : Prop := i ≤ j ∧ j ≤ n ∧ NoneIn (PStop z i) i j ∧ d = dep z i j ∧ (esc z i j = false ∨ (j < n → punctB (z j) = false))

theorem prel_start {z : Nat → Int} {n i : Nat} (h : i < n) : PRel z n i i 0 := ⟨by omega, by omega, none_start _ _, (dep_self z i).symm, .inl (esc_self _ _)⟩

theorem prel_bd {z : Nat → Int} {n i j : Nat} {d : Int} (h : PRel z n i j d) : -(n : Int) ≤ d ∧ d ≤ n := by
  obtain ⟨h1, h2, h3, rfl, h4⟩ := h
  have := dep_bd z i j h1
  omega

theorem prel_end {z : Nat → Int} {n i j : Nat} {d : Int} (h : PRel z n i j d) (hj : ¬ j < n) : PRes z n i j (decide (d = 0)) := by
  obtain ⟨h1, h2, h3, rfl, _⟩ := h
  obtain rfl : j = n := by omega
  exact .inr ⟨h3, rfl, rfl⟩

theorem prel_white {z : Nat → Int} {n i j : Nat} {d : Int} (h : PRel z n i j d) (hj : j < n) (hw : whiteB (z j) = true) : PRes z n i j (decide (d = 0)) := by
  obtain ⟨h1, h2, h3, rfl, _⟩ := h
  exact .inl ⟨j, h1, hj, .inl hw, h3, .inl ⟨hw, rfl, rfl⟩⟩

theorem prel_free {z : Nat → Int} {n i j : Nat} {d : Int} (h : PRel z n i j d) (hj : j < n) (hp : punctB (z j) = true) : esc z i j = false := by
  obtain ⟨h1, h2, h3, h5, h4 | h4⟩ := h
  · exact h4
  · rw [h4 hj] at hp; cases hp

theorem pstop_not {z : Nat → Int} {i j : Nat} (hw : whiteB (z j) = false) (h1 : z j = 40 → esc z i j = false → ¬ 32 < dep z i j + 1) (h2 : z j = 41 → esc z i j = false → dep z i j ≠ 0) : ¬ PStop z i j := by
  rintro (a | ⟨a, b, c⟩ | ⟨a, b, c⟩)
  · rw [hw] at a; cases a
  · exact h1 a b c
  · exact h2 a b c

theorem punct_not_white {c : Int} (h : punctB c = true) : whiteB c = false := by
  unfold punctB at h
  unfold whiteB
  simp at h ⊢
  omega

theorem prel_escape {z : Nat → Int} {n i j : Nat} {d : Int} (h : PRel z n i j d) (hj : j + 1 < n) (hz : z j = 92) (hp : punctB (z (j + 1)) = true) : PRel z n i (j + 2) d := by
  have hf := prel_free h (by omega) (by rw [hz]; decide)
  obtain ⟨h1, h2, h3, rfl, h4⟩ := h
  have e1 : esc z i (j + 1) = true := by rw [esc_back z _ j (by omega) hz, hf]; rfl
  have n1 : ¬ PStop z i j := pstop_not (by rw [hz]; decide) (fun a => by rw [hz] at a; simp at a) (fun a => by rw [hz] at a; simp at a)
  have n2 : ¬ PStop z i (j + 1) := pstop_not (punct_not_white hp) (fun _ a => by rw [e1] at a; cases a) (fun _ a => by rw [e1] at a; cases a)
  refine ⟨by omega, by omega, none_step (none_step h3 n1) n2, ?_, .inl ?_⟩
  · rw [dep_esc z i (j + 1) (by omega) e1, dep_other z i j h1 (by rw [hz]; decide) (by rw [hz]; decide)]
  · rw [esc_succ z i (j + 1) (by omega), e1]; simp

theorem prel_back {z : Nat → Int} {n i j : Nat} {d : Int} (h : PRel z n i j d) (hj : j < n) (hz : z j = 92) (hp : j + 1 < n → punctB (z (j + 1)) = false) : PRel z n i (j + 1) d := by
  obtain ⟨h1, h2, h3, rfl, h4⟩ := h
  have n1 : ¬ PStop z i j := pstop_not (by rw [hz]; decide) (fun a => by rw [hz] at a; simp at a) (fun a => by rw [hz] at a; simp at a)
  exact ⟨by omega, by omega, none_step h3 n1, (dep_other z i j h1 (by rw [hz]; decide) (by rw [hz]; decide)).symm, .inr hp⟩

theorem prel_pass {z : Nat → Int} {n i j : Nat} {d : Int} (h : PRel z n i j d) (hj : j < n) (hw : whiteB (z j) = false) (hz : z j ≠ 92) (g1 : z j ≠ 40) (g2 : z j ≠ 41) : PRel z n i (j + 1) d := by
  obtain ⟨h1, h2, h3, rfl, h4⟩ := h
  exact ⟨by omega, by omega, none_step h3 (pstop_not hw (fun a => absurd a g1) (fun a => absurd a g2)), (dep_other z i j h1 g1 g2).symm, .inl (esc_plain z _ j (by omega) hz)⟩

theorem prel_open {z : Nat → Int} {n i j : Nat} {d : Int} (h : PRel z n i j d) (hj : j < n) (hz : z j = 40) (hd : ¬ 32 < d + 1) : PRel z n i (j + 1) (d + 1) := by
  have hf := prel_free h hj (by rw [hz]; decide)
  obtain ⟨h1, h2, h3, rfl, h4⟩ := h
  exact ⟨by omega, by omega, none_step h3 (pstop_not (by rw [hz]; decide) (fun _ _ => hd) (fun a => by rw [hz] at a; simp at a)), (dep_open z i j h1 hf hz).symm, .inl (esc_plain z _ j (by omega) (by rw [hz]; decide))⟩

theorem prel_deep {z : Nat → Int} {n i j : Nat} {d : Int} (h : PRel z n i j d) (hj : j < n) (hz : z j = 40) (hd : 32 < d + 1) : PRes z n i 0 false := by
  have hf := prel_free h hj (by rw [hz]; decide)
  obtain ⟨h1, h2, h3, rfl, h4⟩ := h
  exact .inl ⟨j, h1, hj, .inr (.inl ⟨hz, hf, hd⟩), h3, .inr (.inl ⟨hz, rfl, rfl⟩)⟩

theorem prel_close {z : Nat → Int} {n i j : Nat} {d : Int} (h : PRel z n i j d) (hj : j < n) (hz : z j = 41) (hd : d ≠ 0) : PRel z n i (j + 1) (d - 1) := by
  have hf := prel_free h hj (by rw [hz]; decide)
  obtain ⟨h1, h2, h3, rfl, h4⟩ := h
  exact ⟨by omega, by omega, none_step h3 (pstop_not (by rw [hz]; decide) (fun a => by rw [hz] at a; simp at a) (fun _ _ => hd)), (dep_close z i j h1 hf hz).symm, .inl (esc_plain z _ j (by omega) (by rw [hz]; decide))⟩

theorem prel_out {z : Nat → Int} {n i j : Nat} {d : Int} (h : PRel z n i j d) (hj : j < n) (hz : z j = 41) (hd : d = 0) : PRes z n i j true := by
  have hf := prel_free h hj (by rw [hz]; decide)
  obtain ⟨h1, h2, h3, rfl, h4⟩ := h
  exact .inl ⟨j, h1, hj, .inr (.inr ⟨hz, hf, hd⟩), h3, .inr (.inr ⟨hz, rfl, rfl⟩)⟩

/-! the model's loops -/
/-- The end of the run without whitespace: found so far. -/
def WRun (z : Nat → Int) (n i m : Nat) : Prop := i ≤ m ∧ m ≤ n ∧ ∀ k, i ≤ k → k < m → whiteB (z k) = false
/-- The end of the run without whitespace. -/
def WEnd (z : Nat → Int) (n i m : Nat) : Prop := WRun z n i m ∧ (m < n → whiteB (z m) = true)

theorem wrun_start {z : Nat → Int} {n i : Nat} (h : i < n) : WRun z n i i := ⟨by omega, by omega, fun k h1 h2 => by omega⟩
theorem wrun_step {z : Nat → Int} {n i m : Nat} (h : WRun z n i m) (hm : m < n) (hw : whiteB (z m) = false) : WRun z n i (m + 1) := by
  obtain ⟨h1, h2, h3⟩ := h
  refine ⟨by omega, by omega, fun k g1 g2 => ?_⟩
  by_cases e : k = m
  · subst e; exact hw
  · exact h3 k g1 (by omega)

/-- What the model's counting loop holds at place k: o opens, c closes. -/
def MRel (z : Nat → Int) (i m k o c : Nat) : Prop := i ≤ k ∧ k ≤ m ∧ NoneIn (PStop z i) i k ∧ (o : Int) - c = dep z i k ∧ o ≤ k - i ∧ c ≤ k - i

theorem mrel_start {z : Nat → Int} {n i m : Nat} (h : WEnd z n i m) : MRel z i m i 0 0 := ⟨by omega, h.1.1, none_start _ _, by rw [dep_self]; simp, by omega, by omega⟩

theorem mrel_end {z : Nat → Int} {n i m k o c : Nat} (hw : WEnd z n i m) (h : MRel z i m k o c) (hk : ¬ k < m) : PRes z n i m (decide ((o : Int) = c)) := by
  obtain ⟨h1, h2, h3, h4, _, _⟩ := h
  obtain rfl : k = m := by omega
  have e : decide ((o : Int) = c) = decide (dep z i k = 0) := by rw [← h4]; rw [decide_eq_decide]; omega
  rw [e]
  by_cases hm : k < n
  · exact .inl ⟨k, h1, hm, .inl (hw.2 hm), h3, .inl ⟨hw.2 hm, rfl, rfl⟩⟩
  · obtain rfl : k = n := by have := hw.1.2.1; omega
    exact .inr ⟨h3, rfl, rfl⟩

theorem mrel_pass {z : Nat → Int} {n i m k o c : Nat} (hw : WEnd z n i m) (h : MRel z i m k o c) (hk : k < m) (g1 : z k ≠ 40) (g2 : z k ≠ 41) : MRel z i m (k + 1) o c := by
  obtain ⟨h1, h2, h3, h4, h5, h6⟩ := h
  exact ⟨by omega, by omega, none_step h3 (pstop_not (hw.1.2.2 k h1 hk) (fun a => absurd a g1) (fun a => absurd a g2)), by rw [dep_other z i k h1 g1 g2]; exact h4, by omega, by omega⟩

theorem mrel_esc {z : Nat → Int} {n i m k o c : Nat} (hw : WEnd z n i m) (h : MRel z i m k o c) (hk : k < m) (he : esc z i k = true) : MRel z i m (k + 1) o c := by
  obtain ⟨h1, h2, h3, h4, h5, h6⟩ := h
  exact ⟨by omega, by omega, none_step h3 (pstop_not (hw.1.2.2 k h1 hk) (fun _ a => by rw [he] at a; cases a) (fun _ a => by rw [he] at a; cases a)), by rw [dep_esc z i k h1 he]; exact h4, by omega, by omega⟩

theorem mrel_open {z : Nat → Int} {n i m k o c : Nat} (hw : WEnd z n i m) (h : MRel z i m k o c) (hk : k < m) (he : esc z i k = false) (hz : z k = 40) (hd : ¬ 32 < (o : Int) + 1 - c) : MRel z i m (k + 1) (o + 1) c := by
  obtain ⟨h1, h2, h3, h4, h5, h6⟩ := h
  refine ⟨by omega, by omega, none_step h3 (pstop_not (hw.1.2.2 k h1 hk) (fun _ _ => by omega) (fun a => by rw [hz] at a; simp at a)), ?_, by omega, by omega⟩
  rw [dep_open z i k h1 he hz]; omega

theorem mrel_deep {z : Nat → Int} {n i m k o c : Nat} (hw : WEnd z n i m) (h : MRel z i m k o c) (hk : k < m) (he : esc z i k = false) (hz : z k = 40) (hd : 32 < (o : Int) + 1 - c) : PRes z n i 0 false := by
  obtain ⟨h1, h2, h3, h4, h5, h6⟩ := h
  exact .inl ⟨k, h1, by have := hw.1.2.1; omega, .inr (.inl ⟨hz, he, by omega⟩), h3, .inr (.inl ⟨hz, rfl, rfl⟩)⟩

theorem mrel_close {z : Nat → Int} {n i m k o c : Nat} (hw : WEnd z n i m) (h : MRel z i m k o c) (hk : k < m) (he : esc z i k = false) (hz : z k = 41) (hd : (o : Int) ≠ c) : MRel z i m (k + 1) o (c + 1) := by
  obtain ⟨h1, h2, h3, h4, h5, h6⟩ := h
  refine ⟨by omega, by omega, none_step h3 (pstop_not (hw.1.2.2 k h1 hk) (fun a => by rw [hz] at a; simp at a) (fun _ _ => by omega)), ?_, by omega, by omega⟩
  rw [dep_close z i k h1 he hz]; omega

theorem mrel_out {z : Nat → Int} {n i m k o c : Nat} (hw : WEnd z n i m) (h : MRel z i m k o c) (hk : k < m) (he : esc z i k = false) (hz : z k = 41) (hd : (o : Int) = c) : PRes z n i k true := by
  obtain ⟨h1, h2, h3, h4, h5, h6⟩ := h
  exact .inl ⟨k, h1, by have := hw.1.2.1; omega, .inr (.inr ⟨hz, he, by omega⟩), h3, .inr (.inr ⟨hz, rfl, rfl⟩)⟩

end Go.Proofs.Qxb6601983a.Plain
