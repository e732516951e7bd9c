/-
  PLAIN LAWS for list items (seat b6601983a): no Go in sight.
-/
namespace Go.Proofs.Qxb6601983a.Plain

def blankB (c : Int) : Bool := decide (c = 32) || decide (c = 9)
def digitB (c : Int) : Bool := decide (48 ≤ c) && decide (c ≤ 57)

/-- The column behind byte c at column col. -/
def stepc (col c : Int) : Int := if c = 9 then col + 4 - col % 4 else col + 1

theorem stepc_tab (col : Int) : stepc col 9 = col + 4 - col % 4 := by simp [stepc]
theorem stepc_other {col c : Int} (h : c ≠ 9) : stepc col c = col + 1 := by simp [stepc, h]
theorem stepc_bd (col c : Int) : col + 1 ≤ stepc col c ∧ stepc col c ≤ col + 4 := by
  unfold stepc; split <;> omega
theorem stepc_model (col : Int) : stepc col 9 = col / 4 * 4 + 4 := by rw [stepc_tab]; omega

def colD (z : Nat → Int) (p0 : Nat) (c0 : Int) : Nat → Int
  | 0 => c0
  | d + 1 => stepc (colD z p0 c0 d) (z (p0 + d))

/-- The column at place p, place p0 standing at column c0. -/
def colAt (z : Nat → Int) (p0 : Nat) (c0 : Int) (p : Nat) : Int := colD z p0 c0 (p - p0)

theorem colAt_self (z : Nat → Int) (p0 : Nat) (c0 : Int) : colAt z p0 c0 p0 = c0 := by simp [colAt, colD]

theorem colAt_succ (z : Nat → Int) (p0 : Nat) (c0 : Int) (p : Nat) (h : p0 ≤ p) : colAt z p0 c0 (p + 1) = stepc (colAt z p0 c0 p) (z p) := by
  unfold colAt
  rw [show p + 1 - p0 = (p - p0) + 1 from by omega]
  show stepc (colD z p0 c0 (p - p0)) (z (p0 + (p - p0))) = _
  rw [show p0 + (p - p0) = p from by omega]

theorem colAt_bd (z : Nat → Int) (p0 : Nat) (c0 : Int) (p : Nat) (h : p0 ≤ p) : c0 + ((p : Int) - p0) ≤ colAt z p0 c0 p ∧ colAt z p0 c0 p ≤ c0 + 4 * ((p : Int) - p0) := by
  obtain ⟨d, rfl⟩ : ∃ d, p = p0 + d := ⟨p - p0, by omega⟩
  clear h
  induction d with
  | zero => rw [Nat.add_zero, colAt_self]; omega
  | succ d ih =>
    rw [show p0 + (d + 1) = p0 + d + 1 from rfl, colAt_succ z p0 c0 (p0 + d) (by omega)]
    have := stepc_bd (colAt z p0 c0 (p0 + d)) (z (p0 + d))
    omega

theorem colAt_mono (z : Nat → Int) (p0 : Nat) (c0 : Int) (p q : Nat) (h : p0 ≤ p) (hq : p ≤ q) : colAt z p0 c0 p + ((q : Int) - p) ≤ colAt z p0 c0 q := by
  obtain ⟨d, rfl⟩ : ∃ d, q = p + d := ⟨q - p, by omega⟩
  clear hq
  induction d with
  | zero => rw [Nat.add_zero]; omega
  | succ d ih =>
    rw [show p + (d + 1) = p + d + 1 from rfl, colAt_succ z p0 c0 (p + d) (by omega)]
    have := stepc_bd (colAt z p0 c0 (p + d)) (z (p + d))
    omega

/-- p is the first place from p0 on that is no blank, or the text's end. -/
def SkipEnd (z : Nat → Int) (n p0 p : Nat) : Prop := p0 ≤ p ∧ p ≤ n ∧ (∀ k, p0 ≤ k → k < p → blankB (z k) = true) ∧ (p < n → blankB (z p) = false)

theorem skip_exists (z : Nat → Int) (n p0 : Nat) (h : p0 ≤ n) : ∃ p, SkipEnd z n p0 p := by
  obtain ⟨m, rfl⟩ : ∃ m, n = p0 + m := ⟨n - p0, by omega⟩
  clear h
  induction m generalizing p0 with
  | zero => exact ⟨p0, by omega, by omega, fun k h1 h2 => by omega, fun h => by omega⟩
  | succ m ih =>
    by_cases hb : blankB (z p0) = true
    · obtain ⟨p, h1, h2, h3, h4⟩ := ih (p0 + 1)
      rw [show p0 + 1 + m = p0 + (m + 1) from by omega] at h2 h4
      refine ⟨p, by omega, h2, fun k g1 g2 => ?_, h4⟩
      by_cases e : k = p0
      · subst e; exact hb
      · exact h3 k (by omega) g2
    · exact ⟨p0, by omega, by omega, fun k h1 h2 => by omega, fun _ => by simpa using hb⟩

theorem skip_more {z : Nat → Int} {n p0 p k : Nat} (h : SkipEnd z n p0 p) (hk : p0 ≤ k) (hp : k < p) : k < n ∧ blankB (z k) = true := ⟨by have := h.2.1; omega, h.2.2.1 k hk hp⟩

/-! ### Markers -/
/-- d digits stand at place f, and no more. -/
def DigEnd (z : Nat → Int) (n f d : Nat) : Prop := f + d ≤ n ∧ (∀ k, k < d → digitB (z (f + k)) = true) ∧ (f + d < n → digitB (z (f + d)) = false)

theorem dig_exists (z : Nat → Int) (n f : Nat) (h : f ≤ n) : ∃ d, DigEnd z n f d := by
  obtain ⟨m, rfl⟩ : ∃ m, n = f + m := ⟨n - f, by omega⟩
  clear h
  induction m generalizing f with
  | zero => exact ⟨0, by omega, fun k h => by omega, fun h => by omega⟩
  | succ m ih =>
    by_cases hb : digitB (z f) = true
    · obtain ⟨d, h1, h2, h3⟩ := ih (f + 1)
      refine ⟨d + 1, by omega, fun k hk => ?_, fun h => ?_⟩
      · by_cases e : k = 0
        · subst e; exact hb
        · have := h2 (k - 1) (by omega)
          rw [show f + 1 + (k - 1) = f + k from by omega] at this
          exact this
      · have := h3 (by omega)
        rw [show f + 1 + d = f + (d + 1) from by omega] at this
        exact this
    · exact ⟨0, by omega, fun k h => by omega, fun _ => by simpa using hb⟩

/-- The number that the first d digits at f spell. -/
def numD (z : Nat → Int) (f : Nat) : Nat → Int
  | 0 => 0
  | d + 1 => numD z f d * 10 + (z (f + d) - 48)

def zerosB (z : Nat → Int) (f : Nat) : Nat → Bool
  | 0 => true
  | k + 1 => zerosB z f k && decide (z (f + k) = 48)

theorem num_pow (z : Nat → Int) (f d : Nat) (h : ∀ k, k < d → digitB (z (f + k)) = true) : 0 ≤ numD z f d ∧ numD z f d < 10 ^ d := by
  induction d with
  | zero => simp [numD]
  | succ d ih =>
    have hi := ih (fun k hk => h k (by omega))
    have hd := h d (by omega)
    simp [digitB] at hd
    simp only [numD, Int.pow_succ]
    omega

theorem num_bd (z : Nat → Int) (f d : Nat) (h : ∀ k, k < d → digitB (z (f + k)) = true) (hd : d ≤ 10) : 0 ≤ numD z f d ∧ numD z f d < 10000000000 := by
  have h1 := num_pow z f d h
  have h2 : (10 : Int) ^ d ≤ 10 ^ 10 := by
    have : 10 ^ d ≤ 10 ^ 10 := Nat.pow_le_pow_right (by decide) hd
    exact_mod_cast this
  have h3 : (10 : Int) ^ 10 = 10000000000 := by decide
  omega

theorem num_zero (z : Nat → Int) (f d : Nat) (h : ∀ k, k < d → digitB (z (f + k)) = true) : zerosB z f d = decide (numD z f d = 0) := by
  induction d with
  | zero => simp [numD, zerosB]
  | succ d ih =>
    have hi := ih (fun k hk => h k (by omega))
    have hp := num_pow z f d (fun k hk => h k (by omega))
    have hd := h d (by omega)
    simp [digitB] at hd
    have e : numD z f (d + 1) = numD z f d * 10 + (z (f + d) - 48) := rfl
    simp only [zerosB, hi]
    rw [Bool.eq_iff_iff]
    simp only [Bool.and_eq_true, decide_eq_true_eq]
    rw [e]
    obtain ⟨hp, _⟩ := hp
    omega

theorem num_one (z : Nat → Int) (f d : Nat) (h : ∀ k, k < d + 1 → digitB (z (f + k)) = true) : (decide (z (f + d) = 49) && zerosB z f d) = decide (numD z f (d + 1) = 1) := by
  have hi := num_zero z f d (fun k hk => h k (by omega))
  have hp := num_pow z f d (fun k hk => h k (by omega))
  have hd := h d (by omega)
  simp [digitB] at hd
  have e : numD z f (d + 1) = numD z f d * 10 + (z (f + d) - 48) := rfl
  simp only [hi]
  rw [Bool.eq_iff_iff]
  simp only [Bool.and_eq_true, decide_eq_true_eq]
  rw [e]
  obtain ⟨hp, _⟩ := hp
  omega

def bulletB (c : Int) : Bool := decide (c = 45) || decide (c = 43) || decide (c = 42)

/-- The marker's width; 0: none. -/
def markW (z : Nat → Int) (n f d : Nat) : Nat :=
  if bulletB (z f) = true then 1 else if d = 0 ∨ 9 < d ∨ n ≤ f + d then 0 else if z (f + d) = 46 ∨ z (f + d) = 41 then d + 1 else 0
/-- No ordered list at another number than 1. -/
def markO (z : Nat → Int) (n f d : Nat) : Bool :=
  if bulletB (z f) = true then true else if d = 0 ∨ 9 < d ∨ n ≤ f + d then false else if z (f + d) = 46 ∨ z (f + d) = 41 then decide (numD z f d = 1) else false

theorem markW_bd {z : Nat → Int} {n f d : Nat} (hf : f < n) : markW z n f d ≤ 10 ∧ f + markW z n f d ≤ n := by
  unfold markW
  split
  · omega
  · split
    · omega
    · split <;> omega

/-! ### The answer -/
structure Li where
  item : Bool
  off : Int
  filled : Bool
  ok : Bool
  pos : Int
  col : Int
  first : Int
  fcol : Int

def refuse (pos : Nat) (col : Int) (f : Nat) (F : Int) : Li := ⟨false, 0, false, false, pos, col, f, F⟩

/-- f: the first place that is no blank, at column F; W: the marker's width; nx: the next place that is no blank, at column X. -/
def liF (z : Nat → Int) (n pos : Nat) (col : Int) (intr : Bool) (f : Nat) (F : Int) (W : Nat) (one : Bool) (nx : Nat) (X : Int) : Li :=
  if W = 0 then refuse pos col f F
  else if nx < n ∧ X = F + W then refuse pos col f F
  else if intr = true ∧ (nx = n ∨ one = false) then refuse pos col f F
  else if nx = n then ⟨true, F + W + 1 - col, false, true, ((f : Int) + W), F + W, nx, X⟩
  else if X - (F + W) ≤ 4 then ⟨true, X - col, false, true, nx, X, nx, X⟩
  else ⟨true, F + W + 1 - col, false, true, if z (f + W) = 32 ∨ (F + W) % 4 = 3 then ((f : Int) + W) + 1 else ((f : Int) + W), F + W + 1, nx, X⟩

theorem li_none {z : Nat → Int} {n pos : Nat} {col : Int} {intr : Bool} {f : Nat} {F : Int} {W : Nat} {one : Bool} {nx : Nat} {X : Int} (h : W = 0) : liF z n pos col intr f F W one nx X = refuse pos col f F := by
  simp [liF, h]
theorem li_tight {z : Nat → Int} {n pos : Nat} {col : Int} {intr : Bool} {f : Nat} {F : Int} {W : Nat} {one : Bool} {nx : Nat} {X : Int} (h0 : W ≠ 0) (h : nx < n ∧ X = F + W) : liF z n pos col intr f F W one nx X = refuse pos col f F := by
  unfold liF; rw [if_neg h0, if_pos h]
theorem li_intr {z : Nat → Int} {n pos : Nat} {col : Int} {intr : Bool} {f : Nat} {F : Int} {W : Nat} {one : Bool} {nx : Nat} {X : Int} (h0 : W ≠ 0) (h1 : ¬ (nx < n ∧ X = F + W)) (h : intr = true ∧ (nx = n ∨ one = false)) : liF z n pos col intr f F W one nx X = refuse pos col f F := by
  unfold liF; rw [if_neg h0, if_neg h1, if_pos h]
theorem li_blank {z : Nat → Int} {n pos : Nat} {col : Int} {intr : Bool} {f : Nat} {F : Int} {W : Nat} {one : Bool} {nx : Nat} {X : Int} (h0 : W ≠ 0) (h2 : ¬ (intr = true ∧ (nx = n ∨ one = false))) (h : nx = n) :
    liF z n pos col intr f F W one nx X = ⟨true, F + W + 1 - col, false, true, ((f : Int) + W), F + W, nx, X⟩ := by
  unfold liF; rw [if_neg h0, if_neg (by omega), if_neg h2, if_pos h]
theorem li_short {z : Nat → Int} {n pos : Nat} {col : Int} {intr : Bool} {f : Nat} {F : Int} {W : Nat} {one : Bool} {nx : Nat} {X : Int} (h0 : W ≠ 0) (h1 : ¬ (nx < n ∧ X = F + W)) (h2 : ¬ (intr = true ∧ (nx = n ∨ one = false))) (h3 : nx ≠ n) (h : X - (F + W) ≤ 4) :
    liF z n pos col intr f F W one nx X = ⟨true, X - col, false, true, nx, X, nx, X⟩ := by
  unfold liF; rw [if_neg h0, if_neg h1, if_neg h2, if_neg h3, if_pos h]
theorem li_long {z : Nat → Int} {n pos : Nat} {col : Int} {intr : Bool} {f : Nat} {F : Int} {W : Nat} {one : Bool} {nx : Nat} {X : Int} (h0 : W ≠ 0) (h2 : ¬ (intr = true ∧ (nx = n ∨ one = false))) (h3 : nx ≠ n) (h : ¬ X - (F + W) ≤ 4) :
    liF z n pos col intr f F W one nx X = ⟨true, F + W + 1 - col, false, true, if z (f + W) = 32 ∨ (F + W) % 4 = 3 then ((f : Int) + W) + 1 else ((f : Int) + W), F + W + 1, nx, X⟩ := by
  unfold liF; rw [if_neg h0, if_neg (by omega), if_neg h2, if_neg h3, if_neg h]

end Go.Proofs.Qxb6601983a.Plain
