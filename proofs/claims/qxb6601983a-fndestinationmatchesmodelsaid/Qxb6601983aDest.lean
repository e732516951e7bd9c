/-
  THE WALK OF destination (seat b6601983a).
-/
import Derived.Test.Qxb6601983aLeaves
import Derived.Test.Qxb6601983aPlainDest
namespace Go.Proofs.Qxb6601983a
open Go.RowKit Plain

set_option maxHeartbeats 400000 in
theorem space_any (c : Int) (w : World) : Calls Try.prog 34 #[.int .u8 c] w fun e w' => e = .returned (.bool (whiteB c)) ∧ w' = w := by
  go_enter Try.func34, Try.ntmps34
  go_wp2
  all_goals (go_ret; refine ⟨ret_bool ?_, rfl⟩; unfold whiteB; rw [Bool.eq_iff_iff]; simp; try omega)

set_option maxHeartbeats 400000 in
theorem white_any (c : Int) (w : World) : Calls Try.prog 20 #[.int .u8 c] w fun e w' => e = .returned (.bool (whiteB c)) ∧ w' = w := by
  go_enter Try.func20, Try.ntmps20
  go_wp2
  all_goals (go_ret; refine ⟨ret_bool ?_, rfl⟩; unfold whiteB; rw [Bool.eq_iff_iff]; simp; try omega)

/-- A call's ending: a pair that is the answer. -/
def AEnd (z : Nat → Int) (n i : Nat) (e : Ending) : Prop := ∃ r ok, e = .returned (.tuple #[.int .i64 r, .bool ok]) ∧ ARes z n i r ok
theorem aend {z : Nat → Int} {n i : Nat} {r : Int} {ok : Bool} (h : ARes z n i r ok) : AEnd z n i (.returned (.tuple #[.int .i64 r, .bool ok])) := ⟨r, ok, rfl, h⟩
def DEnd (z : Nat → Int) (n i : Nat) (e : Ending) : Prop := ∃ r ok, e = .returned (.tuple #[.int .i64 r, .bool ok]) ∧ PRes z n i r ok
theorem dend {z : Nat → Int} {n i : Nat} {r : Int} {ok : Bool} (h : PRes z n i r ok) : DEnd z n i (.returned (.tuple #[.int .i64 r, .bool ok])) := ⟨r, ok, rfl, h⟩
theorem dend_eq {z : Nat → Int} {n i : Nat} {r d : Int} (h : PRes z n i r (decide (d = 0))) : DEnd z n i (.returned (.tuple #[.int .i64 r, .bool (d == 0)])) := ⟨r, _, rfl, h⟩

set_option maxHeartbeats 400000 in
theorem dest_past (a : Option Addr) (n c : Nat) (i : Int) (w : World) (hi : (n : Int) ≤ i) :
    Calls Try.prog 29 #[.slice a n c, .int .i64 i] w fun e w' => e = .returned (.tuple #[.int .i64 i, .bool true]) ∧ w' = w := by
  go_enter Try.func29, Try.ntmps29
  go_wp2
  refine wp_loop_rounds 1 ?_; rw [rounds_succ]
  go_wp2
  go_ret2
  exact ⟨rfl, rfl⟩

set_option maxHeartbeats 1600000 in
theorem dest_angle (b off n c : Nat) (z : Nat → Int) (w : World) (hc : ∀ j, j < n → w.cell? ⟨b, off + j, none⟩ = some (.int .u8 (z j))) (hn : n ≤ 1048576)
    (i : Nat) (hi : i < n) (ho : z i = 60) :
    Calls Try.prog 29 #[.slice (some ⟨b, off, none⟩) n c, .int .i64 i] w fun e w' => AEnd z n i e ∧ w' = w := by
  have hcell := hc i hi
  go_enter Try.func29, Try.ntmps29
  go_wp2
  go_loop [6] (fun j => ∃ k : Nat, ARel z n i k ∧ j = .int .i64 k) (fun j => n - (intOf j).toNat)
  case atStart => exact ⟨i + 1, arel_start hi, by go_num⟩
  case round =>
    obtain ⟨k, hR, rfl⟩ := hrel
    have hk1 := hR.1
    have hk2 := hR.2.1
    by_cases hlt : k < n
    · have hck := hc k hlt
      by_cases hz : z k = 92
      · by_cases hl1 : k + 1 < n
        · have hck1 := hc (k + 1) hl1
          by_cases hp : punctB (z (k + 1)) = true
          · go_wp2_with (go_at_call 33; refine (punct_any _ _).mono ?_; rintro e w' ⟨rfl, rfl⟩)
            go_round
            case rel => exact ⟨k + 2, arel_escape hR hl1 hz hp, by go_num⟩
            case measure => simp [intOf]; omega
          · have hp' : punctB (z (k + 1)) = false := by simpa using hp
            go_wp2_with (go_at_call 33; refine (punct_any _ _).mono ?_; rintro e w' ⟨rfl, rfl⟩)
            go_round
            case rel => exact ⟨k + 1, arel_back hR hlt hz (fun _ => hp'), by go_num⟩
            case measure => simp [intOf]; omega
        · go_wp2
          go_round
          case rel => exact ⟨k + 1, arel_back hR hlt hz (fun h => absurd h hl1), by go_num⟩
          case measure => simp [intOf]; omega
      · by_cases h10 : z k = 10
        · go_wp2
          go_ret2
          exact ⟨aend (arel_line hR hlt h10), rfl⟩
        · by_cases h60 : z k = 60
          · go_wp2
            go_ret2
            exact ⟨aend (arel_less hR hlt h60), rfl⟩
          · by_cases h62 : z k = 62
            · go_wp2
              go_ret2
              exact ⟨aend (arel_hit hR hlt h62), rfl⟩
            · go_wp2
              go_round
              case rel => exact ⟨k + 1, arel_pass hR hlt hz h10 h60 h62, by go_num⟩
              case measure => simp [intOf]; omega
    · go_wp2
      go_ret2
      exact ⟨aend (arel_end hR hlt), rfl⟩

set_option maxHeartbeats 1600000 in
theorem dest_plain (b off n c : Nat) (z : Nat → Int) (w : World) (hc : ∀ j, j < n → w.cell? ⟨b, off + j, none⟩ = some (.int .u8 (z j))) (hn : n ≤ 1048576)
    (i : Nat) (hi : i < n) (ho : z i ≠ 60) :
    Calls Try.prog 29 #[.slice (some ⟨b, off, none⟩) n c, .int .i64 i] w fun e w' => DEnd z n i e ∧ w' = w := by
  have hcell := hc i hi
  have hob : (z i == 60) = false := by simpa using ho
  go_enter Try.func29, Try.ntmps29
  go_wp2
  go_loop [7, 8] (fun d j => ∃ (k : Nat) (x : Int), PRel z n i k x ∧ j = .int .i64 k ∧ d = .int .i64 x) (fun _ j => n - (intOf j).toNat)
  case atStart => exact ⟨i, 0, prel_start hi, rfl, rfl⟩
  case round =>
    obtain ⟨k, x, hR, rfl, rfl⟩ := hrel
    have hk1 := hR.1
    have hk2 := hR.2.1
    have hx1 := (prel_bd hR).1
    have hx2 := (prel_bd hR).2
    by_cases hlt : k < n
    · have hck := hc k hlt
      by_cases hw : whiteB (z k) = true
      · go_wp2_with (go_at_call 34; refine (space_any _ _).mono ?_; rintro e w' ⟨rfl, rfl⟩)
        go_ret2
        exact ⟨dend_eq (prel_white hR hlt hw), rfl⟩
      · have hw' : whiteB (z k) = false := by simpa using hw
        by_cases hz : z k = 92
        · by_cases hl1 : k + 1 < n
          · have hck1 := hc (k + 1) hl1
            by_cases hp : punctB (z (k + 1)) = true
            · go_wp2_with (first | (go_at_call 33; refine (punct_any _ _).mono ?_; rintro e w' ⟨rfl, rfl⟩) | (go_at_call 34; refine (space_any _ _).mono ?_; rintro e w' ⟨rfl, rfl⟩))
              go_round
              case rel => exact ⟨k + 2, x, prel_escape hR hl1 hz hp, by go_num, rfl⟩
              case measure => simp [intOf]; omega
            · have hp' : punctB (z (k + 1)) = false := by simpa using hp
              go_wp2_with (first | (go_at_call 33; refine (punct_any _ _).mono ?_; rintro e w' ⟨rfl, rfl⟩) | (go_at_call 34; refine (space_any _ _).mono ?_; rintro e w' ⟨rfl, rfl⟩))
              go_round
              case rel => exact ⟨k + 1, x, prel_back hR hlt hz (fun _ => hp'), by go_num, rfl⟩
              case measure => simp [intOf]; omega
          · go_wp2_with (go_at_call 34; refine (space_any _ _).mono ?_; rintro e w' ⟨rfl, rfl⟩)
            go_round
            case rel => exact ⟨k + 1, x, prel_back hR hlt hz (fun h => absurd h hl1), by go_num, rfl⟩
            case measure => simp [intOf]; omega
        · by_cases h40 : z k = 40
          · by_cases hd : 32 < x + 1
            · go_wp2_with (go_at_call 34; refine (space_any _ _).mono ?_; rintro e w' ⟨rfl, rfl⟩)
              go_ret2
              exact ⟨dend (prel_deep hR hlt h40 hd), rfl⟩
            · go_wp2_with (go_at_call 34; refine (space_any _ _).mono ?_; rintro e w' ⟨rfl, rfl⟩)
              go_round
              case rel => exact ⟨k + 1, x + 1, prel_open hR hlt h40 (by omega), by go_num, rfl⟩
              case measure => simp [intOf]; omega
          · by_cases h41 : z k = 41
            · by_cases hd : x = 0
              · go_wp2_with (go_at_call 34; refine (space_any _ _).mono ?_; rintro e w' ⟨rfl, rfl⟩)
                go_ret2
                exact ⟨dend (prel_out hR hlt h41 hd), rfl⟩
              · go_wp2_with (go_at_call 34; refine (space_any _ _).mono ?_; rintro e w' ⟨rfl, rfl⟩)
                go_round
                case rel => exact ⟨k + 1, x - 1, prel_close hR hlt h41 hd, by go_num, rfl⟩
                case measure => simp [intOf]; omega
            · go_wp2_with (go_at_call 34; refine (space_any _ _).mono ?_; rintro e w' ⟨rfl, rfl⟩)
              go_round
              case rel => exact ⟨k + 1, x, prel_pass hR hlt hw' hz h40 h41, by go_num, rfl⟩
              case measure => simp [intOf]; omega
    · go_wp2
      go_ret2
      exact ⟨dend_eq (prel_end hR hlt), rfl⟩
end Go.Proofs.Qxb6601983a
