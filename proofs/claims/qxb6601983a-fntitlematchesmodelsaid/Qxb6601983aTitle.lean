/-
  THE WALKS OF title AND zzModelTitle (seat b6601983a).
-/
import Derived.Test.Qxb6601983aLeaves
namespace Go.Proofs.Qxb6601983a
open Go.RowKit Plain

/-- The opener and its closing character. -/
def Opens (c cl : Int) : Prop := (c = 34 ∧ cl = 34) ∨ (c = 39 ∧ cl = 39) ∨ (c = 40 ∧ cl = 41)

theorem closing_of {c cl : Int} (h : Opens c cl) : Closing cl := by
  rcases h with ⟨_, h⟩ | ⟨_, h⟩ | ⟨_, h⟩
  · exact .inl h
  · exact .inr (.inl h)
  · exact .inr (.inr h)

/-- A call's ending: a pair that is the title's answer. -/
def TEnd (z : Nat → Int) (n i : Nat) (cl : Int) (e : Ending) : Prop := ∃ r ok, e = .returned (.tuple #[.int .i64 r, .bool ok]) ∧ TRes z n i cl r ok

theorem tend {z : Nat → Int} {n i : Nat} {cl r : Int} {ok : Bool} (h : TRes z n i cl r ok) : TEnd z n i cl (.returned (.tuple #[.int .i64 r, .bool ok])) := ⟨r, ok, rfl, h⟩

/-! ### title -/
set_option maxHeartbeats 400000 in
theorem title_at_end (a : Option Addr) (n c : Nat) (w : World) :
    Calls Try.prog 27 #[.slice a n c, .int .i64 n] w fun e w' => e = .returned (.tuple #[.int .i64 0, .bool false]) ∧ w' = w := by
  go_enter Try.func27, Try.ntmps27
  go_wp2
  go_ret2
  exact ⟨rfl, rfl⟩

set_option maxHeartbeats 400000 in
theorem title_none (b off n c : Nat) (z : Nat → Int) (w : World) (hc : ∀ j, j < n → w.cell? ⟨b, off + j, none⟩ = some (.int .u8 (z j)))
    (i : Nat) (hi : i < n) (h1 : z i ≠ 34) (h2 : z i ≠ 39) (h3 : z i ≠ 40) :
    Calls Try.prog 27 #[.slice (some ⟨b, off, none⟩) n c, .int .i64 i] w fun e w' => e = .returned (.tuple #[.int .i64 0, .bool false]) ∧ w' = w := by
  have hcell := hc i hi
  have hne : ((i : Int) == (n : Int)) = false := by simp; omega
  go_enter Try.func27, Try.ntmps27
  go_wp2
  go_ret2
  exact ⟨rfl, rfl⟩

set_option maxHeartbeats 1600000 in
theorem title_some (b off n c : Nat) (z : Nat → Int) (w : World) (hc : ∀ j, j < n → w.cell? ⟨b, off + j, none⟩ = some (.int .u8 (z j))) (hn : n ≤ 1048576)
    (i : Nat) (hi : i < n) (cl : Int) (ho : Opens (z i) cl) :
    Calls Try.prog 27 #[.slice (some ⟨b, off, none⟩) n c, .int .i64 i] w fun e w' => TEnd z n i cl e ∧ w' = w := by
  have hcell := hc i hi
  have hne : ((i : Int) == (n : Int)) = false := by simp; omega
  have HC : Hid (Closing cl) := closing_of ho
  rcases ho with ⟨ho, rfl⟩ | ⟨ho, rfl⟩ | ⟨ho, rfl⟩
  all_goals
    go_enter Try.func27, Try.ntmps27
    go_wp2
    go_loop [7, 8] (fun j _ => ∃ k : Nat, TRel z n i _ k ∧ j = .int .i64 k) (fun j _ => n - (intOf j).toNat)
    case atStart => exact ⟨i + 1, trel_start _ hi, by go_num⟩
    case round =>
      obtain ⟨k, hR, rfl⟩ := hrel
      have hk1 := hR.1
      have hk2 := hR.2.1
      by_cases hlt : k < n
      · have hck := hc k hlt
        by_cases hz : z k = 92
        · by_cases hl1 : k + 1 < n
          · have hck1 := hc (k + 1) hl1
            by_cases hp : punctB (z (k + 1)) = true
            · go_wp2_with (go_at_call 33; refine (punct_any _ _).mono ?_; rintro e w' ⟨rfl, rfl⟩)
              go_round
              case rel => exact ⟨k + 2, trel_escape HC.out hR hl1 hz, by go_num⟩
              case measure => simp [intOf]; omega
            · have hp' : punctB (z (k + 1)) = false := by simpa using hp
              go_wp2_with (go_at_call 33; refine (punct_any _ _).mono ?_; rintro e w' ⟨rfl, rfl⟩)
              go_round
              case rel => exact ⟨k + 1, trel_back HC.out hR hlt hz (fun _ => hp'), by go_num⟩
              case measure => simp [intOf]; omega
          · go_wp2
            go_round
            case rel => exact ⟨k + 1, trel_back HC.out hR hlt hz (fun h => absurd h hl1), by go_num⟩
            case measure => simp [intOf]; omega
        · by_cases h40 : z k = 40
          · go_wp2
            first
              | (go_ret2
                 exact ⟨tend (trel_no hR hlt h40), rfl⟩)
              | (go_round
                 case rel => exact ⟨k + 1, trel_pass hR hlt hz (by rw [h40]; decide) (fun h => absurd h (by decide)), by go_num⟩
                 case measure => simp [intOf]; omega)
          · rcases Classical.em (z k = 34) with h34 | h34 <;> rcases Classical.em (z k = 39) with h39 | h39 <;> rcases Classical.em (z k = 41) with h41 | h41 <;> try omega
            all_goals
              go_wp2
              first
                | (go_ret2
                   exact ⟨tend (trel_hit HC.out hR hlt (by assumption)), rfl⟩)
                | (go_round
                   case rel => exact ⟨k + 1, trel_pass hR hlt hz (by assumption) (fun _ => h40), by go_num⟩
                   case measure => simp [intOf]; omega)
      · go_wp2
        go_ret2
        exact ⟨tend (trel_end hR hlt), rfl⟩
end Go.Proofs.Qxb6601983a
