/-
  THE WALK OF zzModelTitle (seat b6601983a).
-/
import Derived.Test.Qxb6601983aTitle
namespace Go.Proofs.Qxb6601983a
open Go.RowKit Plain

set_option maxHeartbeats 400000 in
theorem model_at_end (a : Option Addr) (n c : Nat) (w : World) :
    Calls Try.prog 13 #[.slice a n c, .int .i64 n] w fun e w' => e = .returned (.tuple #[.int .i64 0, .bool false]) ∧ w' = w := by
  go_enter Try.func13, Try.ntmps13
  go_wp2
  go_ret2
  exact ⟨rfl, rfl⟩

set_option maxHeartbeats 400000 in
theorem model_none (b off n c : Nat) (z : Nat → Int) (w : World) (hc : ∀ j, j < n → w.cell? ⟨b, off + j, none⟩ = some (.int .u8 (z j)))
    (i : Nat) (hi : i < n) (h1 : z i ≠ 34) (h2 : z i ≠ 39) (h3 : z i ≠ 40) :
    Calls Try.prog 13 #[.slice (some ⟨b, off, none⟩) n c, .int .i64 i] w fun e w' => e = .returned (.tuple #[.int .i64 0, .bool false]) ∧ w' = w := by
  have hcell := hc i hi
  go_enter Try.func13, Try.ntmps13
  go_wp2
  go_ret2
  exact ⟨rfl, rfl⟩

theorem odd_at (b off n c : Nat) (z : Nat → Int) (w : World) (hc : ∀ j, j < n → w.cell? ⟨b, off + j, none⟩ = some (.int .u8 (z j))) (hn : n ≤ 1048576)
    (i k : Nat) (hlo : i + 1 ≤ k) (hk : k < n) :
    Calls Try.prog 28 #[.slice (some ⟨b, off, none⟩) n c, .int .i64 ((i : Int) + 1), .int .i64 k] w fun e w' => e = .returned (.bool (esc z (i + 1) k)) ∧ w' = w := by
  have := odd_any b off n c z w hc hn (i + 1) k hlo hk
  simpa using this

theorem five (x : Int) : x = 34 ∨ x = 39 ∨ x = 40 ∨ x = 41 ∨ ((x == 34) = false ∧ (x == 39) = false ∧ (x == 40) = false ∧ (x == 41) = false ∧ (x != 34) = true ∧ (x != 39) = true ∧ (x != 40) = true ∧ (x != 41) = true) := by
  simp; omega

theorem pass_of {z : Nat → Int} {i k : Nat} {cl c : Int} (h : TNone z i cl k) (h1 : cl = c) (h2 : z k ≠ c) (h3 : c = 41 → z k ≠ 40) : TNone z i cl (k + 1) := by
  subst h1; exact tmod_pass h h2 h3

set_option maxHeartbeats 1600000 in
theorem model_some (b off n c : Nat) (z : Nat → Int) (w : World) (hc : ∀ j, j < n → w.cell? ⟨b, off + j, none⟩ = some (.int .u8 (z j))) (hn : n ≤ 1048576)
    (i : Nat) (hi : i < n) (cl : Int) (ho : Opens (z i) cl) :
    Calls Try.prog 13 #[.slice (some ⟨b, off, none⟩) n c, .int .i64 i] w fun e w' => TEnd z n i cl e ∧ w' = w := by
  have hcell := hc i hi
  have hni : ¬ n ≤ i := by omega
  rcases ho with ⟨ho, hcl⟩ | ⟨ho, hcl⟩ | ⟨ho, hcl⟩
  all_goals
    have HCL : Hid _ := hcl
    clear hcl
    go_enter Try.func13, Try.ntmps13
    go_wp2
    go_loop [7, 8] (fun j _ => ∃ k : Nat, i + 1 ≤ k ∧ k ≤ n ∧ TNone z i cl k ∧ j = .int .i64 k) (fun j _ => n - (intOf j).toNat)
    case atStart => exact ⟨i + 1, by omega, by omega, tnone_start _ _ _, by go_num⟩
    case round =>
      obtain ⟨k, hk1, hk2, hR, rfl⟩ := hrel
      by_cases hlt : k < n
      · have hck := hc k hlt
        by_cases he : esc z (i + 1) k = true
        · rcases five (z k) with h40 | h40 | h40 | h40 | ⟨h34, h39, h40, h41, g34, g39, g40, g41⟩
          all_goals
            go_wp2_with (go_at_call 28; refine (odd_at b off n c z _ hc hn i k hk1 hlt).mono ?_; rintro e w' ⟨rfl, rfl⟩)
            go_round
            case rel => exact ⟨k + 1, by omega, by omega, tmod_esc hR he, by go_num⟩
            case measure => simp [intOf]; omega
        · have he' : esc z (i + 1) k = false := by simpa using he
          rcases five (z k) with h40 | h40 | h40 | h40 | ⟨h34, h39, h40, h41, g34, g39, g40, g41⟩
          all_goals
            go_wp2_with (go_at_call 28; refine (odd_at b off n c z _ hc hn i k hk1 hlt).mono ?_; rintro e w' ⟨rfl, rfl⟩)
            first
              | (go_ret2
                 first
                  | exact ⟨tend (tmod_hit hR hk1 hlt (by have := HCL.out; omega) he'), rfl⟩
                  | exact ⟨tend (tmod_no HCL.out hR hk1 hlt h40 he'), rfl⟩)
              | (go_round
                 case rel => exact ⟨k + 1, by omega, by omega, pass_of hR HCL.out (by first | (rw [h40]; decide) | (intro h; simp [h] at *)) (by first | (rw [h40]; decide) | (intro _ h; simp [h] at *)), by go_num⟩
                 case measure => simp [intOf]; omega)
      · go_wp2
        go_ret2
        exact ⟨tend (tmod_end hR hk2 hlt), rfl⟩
end Go.Proofs.Qxb6601983a
