/-
  QUOTED TEXT, PLAINLY (seat b6602738a): no Go in sight.
-/
namespace Go.Proofs.Qxb6602738a.Quoted

/-- What a byte behind a backslash stands for. -/
def unesc (c : UInt8) : UInt8 :=
  if c = 48 then 0 else if c = 98 then 8 else if c = 110 then 10 else if c = 114 then 13 else if c = 116 then 9 else if c = 90 then 26 else c

/-- One byte of the value, 'm' bytes of the text. -/
def more (xs : List UInt8) (m : Nat) (r : List UInt8 × Nat) : List UInt8 × Nat := (xs ++ r.1, m + r.2)

/-- The text behind the opening quote: its value and how many bytes it takes, the closing quote's with them. -/
def rd (q : UInt8) (esc : Bool) : List UInt8 → Option (List UInt8 × Nat)
  | [] => none
  | [c] => if c = q then some ([], 1) else none
  | c :: d :: t =>
    if c = q then (if d = q then (rd q esc t).map (more [q] 2) else some ([], 1))
    else if c = 92 ∧ esc = true then (rd q esc t).map (more [unesc d] 2)
    else (rd q esc (d :: t)).map (more [c] 1)

theorem more_nil (o : Option (List UInt8 × Nat)) : o.map (more [] 0) = o := by
  cases o <;> simp [more]

theorem more_more (xs ys : List UInt8) (m k : Nat) (o : Option (List UInt8 × Nat)) : (o.map (more ys k)).map (more xs m) = o.map (more (xs ++ ys) (m + k)) := by
  cases o <;> simp [more, Nat.add_assoc]

/-- What has been read so far: the value 'acc', 'm' bytes of 'l'. -/
def Far (q : UInt8) (esc : Bool) (l : List UInt8) (acc : List UInt8) (m : Nat) : Prop := rd q esc l = (rd q esc (l.drop m)).map (more acc m) ∧ m ≤ l.length ∧ acc.length ≤ m

theorem far_start (q : UInt8) (esc : Bool) (l : List UInt8) : Far q esc l [] 0 := ⟨by rw [List.drop_zero, more_nil], Nat.zero_le _, Nat.zero_le _⟩

theorem drop1 {l : List UInt8} {m : Nat} (h : m < l.length) : l.drop m = l[m] :: l.drop (m + 1) := by
  rw [List.drop_eq_getElem_cons h]

theorem far_step {q : UInt8} {esc : Bool} {l acc ys : List UInt8} {m k : Nat} (h : Far q esc l acc m) (hs : rd q esc (l.drop m) = (rd q esc (l.drop (m + k))).map (more ys k)) (hk : m + k ≤ l.length) (hy : ys.length ≤ k) :
    Far q esc l (acc ++ ys) (m + k) := by
  refine ⟨?_, hk, by simp; have := h.2.2; omega⟩
  rw [h.1, hs, more_more]

theorem rd_twice {q : UInt8} {esc : Bool} {l : List UInt8} {m : Nat} (h1 : m + 1 < l.length) (hc : l[m] = q) (hd : l[m + 1] = q) : rd q esc (l.drop m) = (rd q esc (l.drop (m + 2))).map (more [q] 2) := by
  rw [drop1 (by omega : m < l.length), drop1 h1]
  simp [rd, hc, hd]

theorem rd_escape {q : UInt8} {esc : Bool} {l : List UInt8} {m : Nat} (h1 : m + 1 < l.length) (hc : l[m] = 92) (hq : l[m] ≠ q) (he : esc = true) : rd q esc (l.drop m) = (rd q esc (l.drop (m + 2))).map (more [unesc l[m + 1]] 2) := by
  rw [drop1 (by omega : m < l.length), drop1 h1]
  rw [hc] at hq
  simp [rd, hc, hq, he]

theorem rd_last {q : UInt8} {esc : Bool} {l : List UInt8} {m : Nat} (h : m < l.length) (h1 : ¬ m + 1 < l.length) : rd q esc (l.drop m) = if l[m] = q then some ([], 1) else none := by
  rw [drop1 h, List.drop_eq_nil_of_le (by omega)]
  simp [rd]

theorem rd_plain {q : UInt8} {esc : Bool} {l : List UInt8} {m : Nat} (h : m < l.length) (hq : l[m] ≠ q) (he : ¬ (l[m] = 92 ∧ esc = true ∧ m + 1 < l.length)) : rd q esc (l.drop m) = (rd q esc (l.drop (m + 1))).map (more [l[m]] 1) := by
  by_cases h1 : m + 1 < l.length
  · rw [drop1 h, drop1 h1]
    have he' : ¬ (l[m] = 92 ∧ esc = true) := fun hh => he ⟨hh.1, hh.2, h1⟩
    rw [rd, if_neg hq, if_neg he']
  · rw [rd_last h h1, if_neg hq, List.drop_eq_nil_of_le (by omega)]
    simp [rd]

theorem rd_close {q : UInt8} {esc : Bool} {l : List UInt8} {m : Nat} (h : m < l.length) (hq : l[m] = q) (h1 : ∀ h1 : m + 1 < l.length, l[m + 1] ≠ q) : rd q esc (l.drop m) = some ([], 1) := by
  by_cases h2 : m + 1 < l.length
  · rw [drop1 h, drop1 h2]
    simp [rd, hq, h1 h2]
  · rw [rd_last h h2, if_pos hq]

theorem far_close {q : UInt8} {esc : Bool} {l acc : List UInt8} {m : Nat} (h : Far q esc l acc m) (hm : m < l.length) (hq : l[m] = q) (h1 : ∀ h1 : m + 1 < l.length, l[m + 1] ≠ q) : rd q esc l = some (acc, m + 1) := by
  rw [h.1, rd_close hm hq h1]
  simp [more]

theorem far_none {q : UInt8} {esc : Bool} {l acc : List UInt8} {m : Nat} (h : Far q esc l acc m) (hm : ¬ m < l.length) : rd q esc l = none := by
  rw [h.1, List.drop_eq_nil_of_le (by omega)]
  simp [rd]

theorem far_one_none {q : UInt8} {esc : Bool} {l acc : List UInt8} {m : Nat} (h : Far q esc l acc m) (hm : m < l.length) (h1 : ¬ m + 1 < l.length) (hq : l[m] ≠ q) : rd q esc l = none := by
  rw [h.1, rd_last hm h1, if_neg hq]
  rfl

/-! ### The encoding -/
def e1 (q : UInt8) (esc : Bool) (c : UInt8) : List UInt8 := if c = q then [q, q] else if esc = true ∧ c = 92 then [92, 92] else [c]
def en (q : UInt8) (esc : Bool) (body : List UInt8) : List UInt8 := body.flatMap (e1 q esc)

theorem en_cons (q : UInt8) (esc : Bool) (c : UInt8) (t : List UInt8) : en q esc (c :: t) = e1 q esc c ++ en q esc t := by simp [en]

theorem en_length (q : UInt8) (esc : Bool) (body : List UInt8) : (en q esc body).length ≤ 2 * body.length := by
  induction body with
  | nil => simp [en]
  | cons c t ih =>
    rw [en_cons, List.length_append, List.length_cons]
    have : (e1 q esc c).length ≤ 2 := by
      unfold e1
      split
      · simp
      · split <;> simp
    omega

theorem rd_cons {q : UInt8} {esc : Bool} {c : UInt8} {t : List UInt8} (hq : c ≠ q) (he : ¬ (c = 92 ∧ esc = true)) : rd q esc (c :: t) = (rd q esc t).map (more [c] 1) := by
  cases t with
  | nil => simp [rd, hq]
  | cons d t => rw [rd, if_neg hq, if_neg he]

theorem round_trip (q : UInt8) (esc : Bool) (rest : List UInt8) (hr : ∀ c t, rest = c :: t → c ≠ q) : ∀ body, rd q esc (en q esc body ++ q :: rest) = some (body, (en q esc body).length + 1)
  | [] => by
    cases rest with
    | nil => simp [en, rd]
    | cons c t => simp [en, rd, hr c t rfl]
  | c :: t => by
    rw [en_cons, List.append_assoc]
    have ih := round_trip q esc rest hr t
    unfold e1
    by_cases hq : c = q
    · subst hq
      simp only [if_pos, List.cons_append, List.nil_append, rd, ih]
      simp [more]; omega
    · rw [if_neg hq]
      by_cases he : esc = true ∧ c = 92
      · rw [if_pos he]
        obtain ⟨he, rfl⟩ := he
        simp only [List.cons_append, List.nil_append]
        rw [rd, if_neg hq, if_pos ⟨rfl, he⟩, ih]
        simp [more, unesc]; omega
      · rw [if_neg he]
        simp only [List.cons_append, List.nil_append]
        rw [rd_cons hq (fun h => he ⟨h.2, h.1⟩), ih]
        simp [more]; omega

/-- What a reading that found its end says. -/
theorem ends (q : UInt8) (esc : Bool) : ∀ (n : Nat) (l : List UInt8), l.length ≤ n → ∀ v m, rd q esc l = some (v, m) →
    1 ≤ m ∧ m ≤ l.length ∧ l[m - 1]? = some q ∧ l[m]? ≠ some q ∧ v.length + 1 ≤ m ∧ (esc = false → en q false v ++ [q] = l.take m)
  | n, [], _, v, m, h => by simp [rd] at h
  | n, [c], _, v, m, h => by
    by_cases hc : c = q
    · simp [rd, hc] at h
      obtain ⟨rfl, rfl⟩ := h
      simp [hc, en]
    · simp [rd, hc] at h
  | 0, c :: d :: t, hl, v, m, h => by simp at hl
  | n + 1, c :: d :: t, hl, v, m, h => by
    simp only [List.length_cons] at hl
    rw [rd] at h
    by_cases hc : c = q
    · rw [if_pos hc] at h
      by_cases hd : d = q
      · rw [if_pos hd] at h
        obtain ⟨⟨v', m'⟩, hr, he⟩ := Option.map_eq_some_iff.1 h
        simp only [more, Prod.mk.injEq] at he
        obtain ⟨rfl, rfl⟩ := he
        obtain ⟨a1, a2, a3, a4, a5, a6⟩ := ends q esc n t (by omega) v' m' hr
        obtain ⟨k, rfl⟩ : ∃ k, m' = k + 1 := ⟨m' - 1, by omega⟩
        refine ⟨by omega, by simp; omega, ?_, ?_, by simp; omega, fun he => ?_⟩
        · rw [show 2 + (k + 1) - 1 = k + 2 by omega]; simpa using a3
        · rw [show 2 + (k + 1) = k + 1 + 2 by omega]; simpa using a4
        · rw [show 2 + (k + 1) = k + 1 + 2 by omega]
          simp only [List.cons_append, List.nil_append, en_cons, List.take_succ_cons, e1, if_pos]
          simp [a6 he, hc, hd]
      · rw [if_neg hd] at h
        simp only [Option.some.injEq, Prod.mk.injEq] at h
        obtain ⟨rfl, rfl⟩ := h
        simp [hc, hd, en]
    · rw [if_neg hc] at h
      by_cases hb : c = 92 ∧ esc = true
      · rw [if_pos hb] at h
        obtain ⟨⟨v', m'⟩, hr, he⟩ := Option.map_eq_some_iff.1 h
        simp only [more, Prod.mk.injEq] at he
        obtain ⟨rfl, rfl⟩ := he
        obtain ⟨a1, a2, a3, a4, a5, a6⟩ := ends q esc n t (by omega) v' m' hr
        obtain ⟨k, rfl⟩ : ∃ k, m' = k + 1 := ⟨m' - 1, by omega⟩
        refine ⟨by omega, by simp; omega, ?_, ?_, by simp; omega, fun he => ?_⟩
        · rw [show 2 + (k + 1) - 1 = k + 2 by omega]; simpa using a3
        · rw [show 2 + (k + 1) = k + 1 + 2 by omega]; simpa using a4
        · rw [hb.2] at he; exact absurd he (by decide)
      · rw [if_neg hb] at h
        obtain ⟨⟨v', m'⟩, hr, he⟩ := Option.map_eq_some_iff.1 h
        simp only [more, Prod.mk.injEq] at he
        obtain ⟨rfl, rfl⟩ := he
        obtain ⟨a1, a2, a3, a4, a5, a6⟩ := ends q esc n (d :: t) (by simp; omega) v' m' hr
        obtain ⟨k, rfl⟩ : ∃ k, m' = k + 1 := ⟨m' - 1, by omega⟩
        refine ⟨by omega, by simp at a2 ⊢; omega, ?_, ?_, by simp; omega, fun he => ?_⟩
        · rw [show 1 + (k + 1) - 1 = k + 1 by omega]; simpa using a3
        · rw [show 1 + (k + 1) = k + 1 + 1 by omega]; simpa using a4
        · rw [show 1 + (k + 1) = k + 1 + 1 by omega]
          have h6 := a6 he
          simp only [List.cons_append, List.nil_append, en_cons, e1, if_neg hc]
          rw [List.take_succ_cons, ← h6]
          simp
end Go.Proofs.Qxb6602738a.Quoted
