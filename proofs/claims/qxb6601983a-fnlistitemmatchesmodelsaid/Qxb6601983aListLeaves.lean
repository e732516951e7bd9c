/-
  THE LIST ITEM's LEAVES (seat b6601983a): isBlank, isDigit, nextCol, zzStepCol, zzHasNonBlank, zzSkipBlanks.
-/
import Derived.Test.Qxb6601983aLeaves
import Derived.Test.Qxb6601983aPlainList
namespace Go.Proofs.Qxb6601983a
open Go.RowKit Plain

set_option maxHeartbeats 400000 in
theorem blank_any (c : Int) (w : World) : Calls Try.prog 39 #[.int .u8 c] w fun e w' => e = .returned (.bool (blankB c)) ∧ w' = w := by
  go_enter Try.func39, Try.ntmps39
  go_wp2
  all_goals (go_ret; refine ⟨ret_bool ?_, rfl⟩; unfold blankB; rw [Bool.eq_iff_iff]; simp; try omega)

set_option maxHeartbeats 400000 in
theorem digit_any (c : Int) (w : World) : Calls Try.prog 41 #[.int .u8 c] w fun e w' => e = .returned (.bool (digitB c)) ∧ w' = w := by
  go_enter Try.func41, Try.ntmps41
  go_wp2
  all_goals (go_ret; refine ⟨ret_bool ?_, rfl⟩; unfold digitB; rw [Bool.eq_iff_iff]; simp; try omega)

theorem ret_int {k : IntKind} {a b : Int} (h : a = b) : Ending.returned (.int k a) = .returned (.int k b) := by rw [h]

set_option maxHeartbeats 400000 in
theorem next_any (col c : Int) (w : World) (h0 : 0 ≤ col) (h1 : col ≤ 1000000000) : Calls Try.prog 40 #[.int .i64 col, .int .u8 c] w fun e w' => e = .returned (.int .i64 (stepc col c)) ∧ w' = w := by
  by_cases hc : c = 9
  · subst hc
    go_enter Try.func40, Try.ntmps40
    go_wp2
    go_ret
    exact ⟨ret_int (stepc_tab col).symm, rfl⟩
  · go_enter Try.func40, Try.ntmps40
    go_wp2
    go_ret
    exact ⟨ret_int (stepc_other hc).symm, rfl⟩

set_option maxHeartbeats 400000 in
theorem step_any (col c : Int) (w : World) (h0 : 0 ≤ col) (h1 : col ≤ 1000000000) : Calls Try.prog 38 #[.int .i64 col, .int .u8 c] w fun e w' => e = .returned (.int .i64 (stepc col c)) ∧ w' = w := by
  by_cases hc : c = 9
  · subst hc
    go_enter Try.func38, Try.ntmps38
    go_wp2
    go_ret
    exact ⟨ret_int (stepc_model col).symm, rfl⟩
  · go_enter Try.func38, Try.ntmps38
    go_wp2
    go_ret
    exact ⟨ret_int (stepc_other hc).symm, rfl⟩

theorem blank_parts {c : Int} (h : blankB c = true) : c = 32 ∨ c = 9 := by simpa [blankB] using h
theorem blank_not {c : Int} (h : blankB c = false) : (c != 32) = true ∧ (c != 9) = true ∧ (c == 32) = false ∧ (c == 9) = false := by
  simp [blankB] at h; simp [h]

set_option maxHeartbeats 1600000 in
theorem has_any (b off n c : Nat) (z : Nat → Int) (w : World) (hc : ∀ j, j < n → w.cell? ⟨b, off + j, none⟩ = some (.int .u8 (z j))) (hn : n ≤ 1048576)
    (pos f : Nat) (hf : SkipEnd z n pos f) :
    Calls Try.prog 22 #[.slice (some ⟨b, off, none⟩) n c, .int .i64 pos] w fun e w' => e = .returned (.bool (decide (f < n))) ∧ w' = w := by
  have h1 := hf.1
  have h2 := hf.2.1
  go_enter Try.func22, Try.ntmps22
  go_wp2
  go_loop [5] (fun j => ∃ k : Nat, pos ≤ k ∧ k ≤ f ∧ j = .int .i64 k) (fun j => n - (intOf j).toNat)
  case atStart => exact ⟨pos, by omega, by omega, rfl⟩
  case round =>
    obtain ⟨k, hk1, hk2, rfl⟩ := hrel
    by_cases hlt : k < n
    · have hck := hc k hlt
      by_cases hkf : k < f
      · rcases blank_parts (skip_more hf hk1 hkf).2 with h | h
        all_goals
          go_wp2
          go_round
          case rel => exact ⟨k + 1, by omega, by omega, by go_num⟩
          case measure => simp [intOf]; omega
      · obtain rfl : k = f := by omega
        obtain ⟨g1, g2, _, _⟩ := blank_not (hf.2.2.2 hlt)
        go_wp2
        go_ret
        exact ⟨ret_bool (by simp), rfl⟩
    · go_wp2
      go_ret
      exact ⟨ret_bool (by symm; simp; omega), rfl⟩

theorem has_none (a : Option Addr) (n c : Nat) (w : World) (pos : Int) (h : (n : Int) ≤ pos) :
    Calls Try.prog 22 #[.slice a n c, .int .i64 pos] w fun e w' => e = .returned (.bool false) ∧ w' = w := by
  go_enter Try.func22, Try.ntmps22
  go_wp2
  refine wp_loop_rounds 1 ?_; rw [rounds_succ]
  go_wp2
  go_ret
  exact ⟨rfl, rfl⟩

set_option maxHeartbeats 1600000 in
theorem skip_any (b off n c : Nat) (z : Nat → Int) (w : World) (hc : ∀ j, j < n → w.cell? ⟨b, off + j, none⟩ = some (.int .u8 (z j))) (hn : n ≤ 1048576)
    (pos f : Nat) (col : Int) (hf : SkipEnd z n pos f) (hc0 : 0 ≤ col) (hc1 : col ≤ 300000000) :
    Calls Try.prog 31 #[.slice (some ⟨b, off, none⟩) n c, .int .i64 pos, .int .i64 col] w fun e w' => e = .returned (.tuple #[.int .i64 f, .int .i64 (colAt z pos col f)]) ∧ w' = w := by
  have h1 := hf.1
  have h2 := hf.2.1
  go_enter Try.func31, Try.ntmps31
  go_wp2
  go_loop [1, 2] (fun j d => ∃ k : Nat, pos ≤ k ∧ k ≤ f ∧ j = .int .i64 k ∧ d = .int .i64 (colAt z pos col k)) (fun j _ => n - (intOf j).toNat)
  case atStart => exact ⟨pos, by omega, by omega, rfl, by rw [colAt_self]⟩
  case round =>
    obtain ⟨k, hk1, hk2, rfl, rfl⟩ := hrel
    have hb := colAt_bd z pos col k hk1
    have hs := colAt_succ z pos col k hk1
    have HS : Hid (colAt z pos col (k + 1) = stepc (colAt z pos col k) (z k)) := hs
    clear hs
    by_cases hlt : k < n
    · have hck := hc k hlt
      by_cases hkf : k < f
      · rcases blank_parts (skip_more hf hk1 hkf).2 with h | h
        all_goals
          go_wp2_with (go_at_call 38; refine (step_any _ _ _ (by omega) (by omega)).mono ?_; rintro e w' ⟨rfl, rfl⟩)
          go_round
          case rel => exact ⟨k + 1, by omega, by omega, by go_num, by rw [HS.out, h]⟩
          case measure => simp [intOf]; omega
      · obtain rfl : k = f := by omega
        obtain ⟨_, _, g1, g2⟩ := blank_not (hf.2.2.2 hlt)
        go_wp2
        go_ret2
        exact ⟨rfl, rfl⟩
    · obtain rfl : k = f := by omega
      go_wp2
      go_ret2
      exact ⟨rfl, rfl⟩
end Go.Proofs.Qxb6601983a
