/-
  THE WALK OF quotedAutomatonSqlB1 (seat b6602738a).
-/
import Derived.Test.Qxb6602738aQAppend
set_option linter.unusedVariables false
namespace Go.Proofs.Qxb6602738a
open Go.RowKit Quoted

/-- The automaton's state x ahead of k. -/
def ARel (s : ByteArray) (i : Nat) (esc : Bool) (acc : List UInt8) (k : Nat) (x : Int) : Prop :=
  (x = 0 ∧ Rel s i esc acc k) ∨ (x = 1 ∧ ∃ j, k = j + 1 ∧ j < s.size ∧ Rel s i esc acc j ∧ by_ s j = by_ s i) ∨ (x = 2 ∧ ∃ j, k = j + 1 ∧ j < s.size ∧ Rel s i esc acc j ∧ by_ s j = 92 ∧ by_ s j ≠ by_ s i ∧ esc = true)

theorem arel_bound {s : ByteArray} {i k : Nat} {esc : Bool} {acc : List UInt8} {x : Int} (h : ARel s i esc acc k x) : i + 1 ≤ k ∧ k ≤ s.size ∧ acc.length ≤ k := by
  rcases h with ⟨_, h⟩ | ⟨_, j, rfl, hj, h, _⟩ | ⟨_, j, rfl, hj, h, _⟩
  · exact ⟨h.1, h.2.1, h.2.2.1⟩
  · have := h.1; have := h.2.2.1; omega
  · have := h.1; have := h.2.2.1; omega

theorem rel_one_none {s : ByteArray} {i j : Nat} {esc : Bool} {acc : List UInt8} (h : Rel s i esc acc j) (hj : j < s.size) (h1 : ¬ j + 1 < s.size) (hq : by_ s j ≠ by_ s i) :
    Value.tuple #[.string ⟨#[]⟩, .int .i64 s.size, .bool false] = ans s i esc := by
  have hl : j - (i + 1) < (tail_ s i).length := by rw [tail_length]; have := h.1; omega
  have := far_one_none h.2.2.2 hl (by rw [tail_length]; have := h.1; omega) (by rw [tail_k h.1 hl]; exact fun hh => hq (byt_eq.2 hh))
  unfold ans
  rw [this]

set_option maxHeartbeats 8000000 in
set_option maxRecDepth 100000 in
theorem automaton_any (s : ByteArray) (i : Nat) (esc : Bool) (w : World) (hi : i < s.size) (hn : s.size ≤ 1048576) :
    Calls Try.prog 29 #[.string s, .int .i64 i, .bool esc] w fun e w' => e = .returned (ans s i esc) ∧ Below w.heap.size w w' := by
  have hii := fun w => idx hi w
  have hle : w.heap.size ≤ w.heap.size := Nat.le_refl _
  go_enter Try.func29, Try.ntmps29
  go_wp2
  go_loopw [10, 11, 12, 13] (fun v st j _ wr => ∃ (k : Nat) (acc : List UInt8) (x : Int), ARel s i esc acc k x ∧ j = .int .i64 k ∧ st = .int .i64 x ∧ Bytes w.heap.size v acc wr ∧ Below w.heap.size w wr) (fun _ _ j _ _ => s.size - (intOf j).toNat)
  case atStart => exact ⟨i + 1, [], 0, .inl ⟨rfl, rel_start hi⟩, by go_num, rfl, bytes_nil _ _, Below.refl _ w⟩
  case round =>
    obtain ⟨k, acc, x, hA, rfl, rfl, hown, hbl⟩ := hrel
    have hk1 := (arel_bound hA).1
    have hk2 := (arel_bound hA).2.1
    have hk3 := (arel_bound hA).2.2
    have hcv := run_text hown
    by_cases hlt : k < s.size
    · have hik := fun w => idx hlt w
      rcases hA with ⟨rfl, hR⟩ | ⟨rfl, hH⟩ | ⟨rfl, hH⟩
      · by_cases hq : by_ s k = by_ s i
        · have hqb : (by_ s k == by_ s i) = true := by simpa using hq
          go_wp2
          go_roundw
          case rel => exact ⟨k + 1, acc, 1, .inr (.inl ⟨rfl, k, rfl, hlt, hR, hq⟩), by go_num, rfl, hown, hbl⟩
          case measure => simp [intOf]; omega
        · have hqb : (by_ s k == by_ s i) = false := by simpa using hq
          by_cases h92 : by_ s k = 92
          · have h92b : (by_ s k == 92) = true := by simpa using h92
            have h92h : Hid (by_ s k = 92) := h92
            clear h92
            cases esc with
            | true =>
              go_wp2
              go_roundw
              case rel => exact ⟨k + 1, acc, 2, .inr (.inr ⟨rfl, k, rfl, hlt, hR, h92h.out, hq, rfl⟩), by go_num, rfl, hown, hbl⟩
              case measure => simp [intOf]; omega
            | false =>
              go_wp2_with (at_builtin; refine wp_push rfl _ _ rfl _ rfl hown hbl hle _ (byt s k) rfl rfl (by omega) ?_; intro v' w' hown' hbl')
              go_roundw
              case rel => exact ⟨k + 1, _, 0, .inl ⟨rfl, rel_plain hR hlt hq (fun h => absurd h.2.1 (by decide))⟩, by go_num, rfl, hown', hbl'⟩
              case measure => simp [intOf]; omega
          · have h92b : (by_ s k == 92) = false := by simpa using h92
            cases esc <;>
            · go_wp2_with (at_builtin; refine wp_push rfl _ _ rfl _ rfl hown hbl hle _ (byt s k) rfl rfl (by omega) ?_; intro v' w' hown' hbl')
              go_roundw
              case rel => exact ⟨k + 1, _, 0, .inl ⟨rfl, rel_plain hR hlt hq (fun h => h92 h.1)⟩, by go_num, rfl, hown', hbl'⟩
              case measure => simp [intOf]; omega
      · by_cases hq : by_ s k = by_ s i
        · have hqb : (by_ s k == by_ s i) = true := by simpa using hq
          go_wp2_with (at_builtin; refine wp_push rfl _ _ rfl _ rfl hown hbl hle _ (byt s i) rfl rfl (by omega) ?_; intro v' w' hown' hbl')
          go_roundw
          case rel => obtain ⟨j, rfl, hjn, hR, hjq⟩ := hH; exact ⟨j + 2, _, 0, .inl ⟨rfl, rel_twice hR hlt hjq hq⟩, by go_num, rfl, hown', hbl'⟩
          case measure => simp [intOf]; omega
        · have hqb : (by_ s k == by_ s i) = false := by simpa using hq
          go_wp2
          go_ret3
          obtain ⟨j, rfl, hjn, hR, hjq⟩ := hH
          exact ⟨congrArg Ending.returned (rel_close hR hjn hjq (fun _ => hq)), hbl⟩
      · go_wp2_with (first | (go_at_call 37; refine (control_any _ _).mono ?_; rintro e w' ⟨rfl, rfl⟩) | (at_builtin; refine wp_push rfl _ _ rfl _ rfl hown hbl hle _ (unesc (byt s k)) (unescI_of _) rfl (by omega) ?_; intro v' w' hown' hbl'))
        go_roundw
        case rel => obtain ⟨j, rfl, hjn, hR, hj92, hjq, hesc⟩ := hH; exact ⟨j + 2, _, 0, .inl ⟨rfl, rel_escape hR hlt hj92 hjq hesc⟩, by go_num, rfl, hown', hbl'⟩
        case measure => simp [intOf]; omega
    · rcases hA with ⟨rfl, hR⟩ | ⟨rfl, hH⟩ | ⟨rfl, hH⟩
      · go_wp2
        go_ret3
        exact ⟨congrArg Ending.returned (rel_none hR hlt), hbl⟩
      · go_wp2
        go_ret3
        obtain ⟨j, rfl, hjn, hR, hjq⟩ := hH
        have h2 := rel_close hR hjn hjq (fun h => absurd h hlt)
        rw [show ((j : Int) + 1) = (s.size : Int) by omega] at h2
        exact ⟨congrArg Ending.returned h2, hbl⟩
      · go_wp2
        go_ret3
        obtain ⟨j, rfl, hjn, hR, hj92, hjq, hesc⟩ := hH
        exact ⟨congrArg Ending.returned (rel_one_none hR hjn hlt hjq), hbl⟩
end Go.Proofs.Qxb6602738a
