/-
  THE LEAVES' CONTRACTS (seat b6601983a): isPunct, zzOddRun, zzBytes_.., zzCopyBytes.
-/
import Derived.Test.Qxb6601983aProg
import Derived.Test.Qxb6601983aPlain
import Derived.WalkKit
import Derived.WalkSpells
import Derived.Outline
import Derived.Below
import Derived.OwnWalk
namespace Go.Proofs.Qxb6601983a
open Go.RowKit Plain

theorem ret_bool {a b : Bool} (h : a = b) : Ending.returned (.bool a) = .returned (.bool b) := by rw [h]

set_option maxHeartbeats 400000 in
theorem punct_any (c : Int) (w : World) : Calls Try.prog 33 #[.int .u8 c] w fun e w' => e = .returned (.bool (punctB c)) ∧ w' = w := by
  go_enter Try.func33, Try.ntmps33
  go_wp2
  all_goals (go_ret; refine ⟨ret_bool ?_, rfl⟩; unfold punctB; rw [Bool.eq_iff_iff]; simp; try omega)

/-- A slice of n bytes, in memory: z: its bytes by their places. -/
def Bs (w : World) (a : Option Addr) (n : Nat) (z : Nat → Int) : Prop :=
  0 < n → ∃ b off, a = some ⟨b, off, none⟩ ∧ ∀ j, j < n → w.cell? ⟨b, off + j, none⟩ = some (.int .u8 (z j))

theorem odd_end {x : Bool} {cnt : Nat} (h : x = decide (cnt % 2 = 1)) : Ending.returned (.bool ((cnt : Int) % 2 == 1)) = .returned (.bool x) :=
  ret_bool (by rw [h, Bool.eq_iff_iff]; simp; omega)

set_option maxHeartbeats 400000 in
theorem odd_any (b off n c : Nat) (z : Nat → Int) (w : World) (hc : ∀ j, j < n → w.cell? ⟨b, off + j, none⟩ = some (.int .u8 (z j))) (hn : n ≤ 1048576)
    (lo k : Nat) (hlo : lo ≤ k) (hk : k < n) :
    Calls Try.prog 28 #[.slice (some ⟨b, off, none⟩) n c, .int .i64 lo, .int .i64 k] w fun e w' => e = .returned (.bool (esc z lo k)) ∧ w' = w := by
  go_enter Try.func28, Try.ntmps28
  go_wp2
  go_loop [7, 8] (fun c m => ∃ (p cnt : Nat) (x : Int), Run z lo k p cnt ∧ c = .int .i64 cnt ∧ m = .int .i64 x ∧ x = (p : Int) - 1) (fun _ m => (intOf m + 1).toNat)
  case atStart => exact ⟨k, 0, _, run_start z lo k hlo, rfl, rfl, rfl⟩
  case round =>
    obtain ⟨p, cnt, x, hR, rfl, rfl, hx⟩ := hrel
    have h1 := hR.1
    have h2 : p + cnt ≤ k := by have := hR.2.1; omega
    by_cases hp : lo < p
    · obtain ⟨q, rfl⟩ : ∃ q, p = q + 1 := ⟨p - 1, by omega⟩
      obtain rfl : x = (q : Int) := by omega
      clear hx
      have hcell := hc q (by omega)
      have hq : lo ≤ q := by omega
      have hqn : q < n := by omega
      by_cases hz : z q = 92
      · go_wp2
        go_round
        case rel => exact ⟨q, cnt + 1, _, run_step z lo k q cnt hR hq hz, by go_num, rfl, rfl⟩
        case measure => simp [intOf]
      · go_wp2
        go_ret
        exact ⟨odd_end (run_end z lo k _ cnt hR (.inr ⟨q, rfl, hq, hz⟩)), rfl⟩
    · have hx' : x < (lo : Int) := by omega
      clear hx
      go_wp2
      go_ret
      exact ⟨odd_end (run_end z lo k _ cnt hR (.inl (by omega))), rfl⟩

/-! ### zzBytes_..: the bound on the length -/
set_option maxHeartbeats 400000 in
theorem bytes10_yes (a : Option Addr) (n c : Nat) (i : Int) (w : World) (hn : n ≤ 1048576) :
    Calls Try.prog 10 #[.slice a n c, .int .i64 i] w fun e w' => e = .returned (.bool true) ∧ w' = w := by
  go_enter Try.func10, Try.ntmps10
  go_wp2
  go_ret
  exact ⟨rfl, rfl⟩

set_option maxHeartbeats 400000 in
theorem bytes10_no (a : Option Addr) (n c : Nat) (i : Int) (w : World) (hn : 1048576 < n) :
    Calls Try.prog 10 #[.slice a n c, .int .i64 i] w fun e w' => e = .returned (.bool false) ∧ w' = w := by
  go_enter Try.func10, Try.ntmps10
  go_wp2
  go_ret
  exact ⟨rfl, rfl⟩

/-! ### zzCopyBytes -/
theorem Try.info5 : (Try.prog.info? 5).map (fun i => (i.zero, i.size, i.bytes)) = some (some (.int .u8 0), 1, 1) := by kernel_rfl

/-- The new row, as far as it is filled. -/
def Filled (B n : Nat) (z : Nat → Int) (wr : World) (k : Nat) : Prop :=
  ∃ xs : List Value, wr.ownsRow B 5 1 (.slice (some ⟨B, 0, none⟩) n n) n xs ∧ xs.length = n ∧ ∀ j, j < k → xs[j]? = some (.int .u8 (z j))

theorem filled_step {B n : Nat} {z : Nat → Int} {wr : World} {k : Nat} (h : Filled B n z wr k) (hk : k < n) : Filled B n z (wr.setCell ⟨B, k, none⟩ (.int .u8 (z k))) (k + 1) := by
  obtain ⟨xs, ho, hl, hx⟩ := h
  refine ⟨xs.set k (.int .u8 (z k)), (ho.stored k _).1, by simpa using hl, fun j hj => ?_⟩
  by_cases e : k = j
  · subst e; simp [hl, hk]
  · rw [List.getElem?_set_ne e]; exact hx j (by omega)

theorem filled_cell {B n : Nat} {z : Nat → Int} {wr : World} {k j : Nat} (h : Filled B n z wr k) (hj : j < n) : ∃ v, wr.cell? ⟨B, j, none⟩ = some v := by
  obtain ⟨xs, ho, hl, hx⟩ := h
  exact ⟨xs[j]'(by omega), by rw [ho.cellAt j (by omega)]; simp [hl, hj]⟩

theorem filled_frozen {B n : Nat} {z : Nat → Int} {wr : World} {k : Nat} (h : Filled B n z wr k) (j : Nat) : wr.frozen? ⟨B, j, none⟩ = false := by
  obtain ⟨xs, ho, hl, hx⟩ := h
  exact ho.frozenAt j

theorem filled_bs {B n : Nat} {z : Nat → Int} {wr : World} (h : Filled B n z wr n) : Bs wr (some ⟨B, 0, none⟩) n z := by
  obtain ⟨xs, ho, hl, hx⟩ := h
  exact fun _ => ⟨B, 0, rfl, fun j hj => by rw [Nat.zero_add, ho.cellAt j (by omega)]; exact hx j hj⟩

set_option maxHeartbeats 400000 in
theorem copy_some (x : Addr) (n c : Nat) (z : Nat → Int) (w : World) (hB : Bs w (some x) n z) (hn : n ≤ 1048576) :
    Calls Try.prog 11 #[.slice (some x) n c] w fun e w' => e = .returned (.slice (some ⟨w.heap.size, 0, none⟩) n n) ∧ Below w.heap.size w w' ∧ Filled w.heap.size n z w' n := by
  obtain ⟨i0, hi, hz0, hz1, hz2⟩ := info_parts Try.info5
  have hnil := fun wx => Lib.run_eql_slice_nil (P := Try.prog) wx 22 5 (some x) n c 0 0 Try.underlying22
  go_enter Try.func11, Try.ntmps11
  go_wp2_with (at_make; refine wpList_make_full _ rfl _ _ 22 rfl w.heap.size 5 i0 (.int .u8 0) 1 Try.underlying22 hi hz0 hz1 _ _ _ _ n rfl rfl rfl rfl ?bytes ?maxl ?base ?_)
  case bytes => rw [hz2]; omega
  case maxl => unfold maxLen; omega
  case base => exact Nat.le_refl _
  intro w1 hown hgrow
  have hb1 : Below w.heap.size w w1 := (Below.refl _ _).grown hgrow (Nat.le_refl _) (fun k h => by cases h)
  have hf1 : Filled w.heap.size n z w1 0 := ⟨_, hown, by simpa using hown.1, fun j hj => by omega⟩
  clear hown hgrow hnil
  go_wp2
  go_loopw [4] (fun i wr => ∃ k : Nat, k ≤ n ∧ i = .int .i64 k ∧ Below w.heap.size w wr ∧ Filled w.heap.size n z wr k) (fun i _ => n - (intOf i).toNat)
  case atStart => exact ⟨0, Nat.zero_le _, rfl, hb1, hf1⟩
  case round =>
    obtain ⟨k, hk, rfl, hb, hf⟩ := hrel
    by_cases hlt : k < n
    · obtain ⟨b, off, hx, hc⟩ := hB (by omega)
      obtain rfl : x = ⟨b, off, none⟩ := by simpa using hx
      have hcell := hc k hlt
      have hbb : b < w.heap.size := block_lt_of_cell hcell
      have hcell2 : wr.cell? ⟨b, off + k, none⟩ = some (.int .u8 (z k)) := (hb.cell (by exact hbb)).trans hcell
      obtain ⟨v, hv⟩ := filled_cell hf hlt
      have hfz := filled_frozen hf k
      go_wp2
      go_roundw
      case rel => exact ⟨k + 1, by omega, by go_num, hb.setCell (by simp) _, filled_step hf hlt⟩
      case measure => simp [intOf]; omega
    · obtain rfl : k = n := by omega
      go_wp2
      go_ret
      exact ⟨rfl, hb, hf⟩

set_option maxHeartbeats 400000 in
theorem copy_nil (w : World) :
    Calls Try.prog 11 #[.slice none 0 0] w fun e w' => e = .returned (.slice none 0 0) ∧ w' = w := by
  have hnil := fun wx => Lib.run_eql_slice_nil (P := Try.prog) wx 22 5 none 0 0 0 0 Try.underlying22
  go_enter Try.func11, Try.ntmps11
  go_wp2
  go_ret
  exact ⟨rfl, rfl⟩

/-- zzCopyBytes, whatever the slice: the same bytes, in new memory. -/
theorem copy_any (a : Option Addr) (n c : Nat) (z : Nat → Int) (w : World) (hB : Bs w a n z) (hnil : a = none → n = 0 ∧ c = 0) (hn : n ≤ 1048576) :
    Calls Try.prog 11 #[.slice a n c] w fun e w' => ∃ a' c', e = .returned (.slice a' n c') ∧ Below w.heap.size w w' ∧ Bs w' a' n z := by
  match a, hB, hnil with
  | none, hB, hnil =>
    obtain ⟨rfl, rfl⟩ := hnil rfl
    refine (copy_nil w).mono ?_
    rintro e w' ⟨rfl, rfl⟩
    exact ⟨none, 0, rfl, Below.refl _ _, hB⟩
  | some x, hB, _ =>
    refine (copy_some x n c z w hB hn).mono ?_
    rintro e w' ⟨rfl, hb, hf⟩
    exact ⟨_, _, rfl, hb, filled_bs hf⟩
end Go.Proofs.Qxb6601983a
