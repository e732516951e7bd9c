/-
  THE LAW FnDestinationMatchesModel (seat b6601983a): her walk.
-/
import Derived.Test.Qxb6601983aDestModel
namespace Go.Proofs.Qxb6601983a
open Go.RowKit Plain

set_option maxHeartbeats 400000 in
theorem bytes16_yes (a : Option Addr) (n c : Nat) (i : Int) (w : World) (hn : n ≤ 1048576) :
    Calls Try.prog 16 #[.slice a n c, .int .i64 i] w fun e w' => e = .returned (.bool true) ∧ w' = w := by
  go_enter Try.func16, Try.ntmps16
  go_wp2
  go_ret
  exact ⟨rfl, rfl⟩

set_option maxHeartbeats 400000 in
theorem bytes16_no (a : Option Addr) (n c : Nat) (i : Int) (w : World) (hn : 1048576 < n) :
    Calls Try.prog 16 #[.slice a n c, .int .i64 i] w fun e w' => e = .returned (.bool false) ∧ w' = w := by
  go_enter Try.func16, Try.ntmps16
  go_wp2
  go_ret
  exact ⟨rfl, rfl⟩

set_option maxHeartbeats 1600000 in
theorem dest_law (a : Option Addr) (n c : Nat) (z : Nat → Int) (i : Int) (w : World) (hB : Bs w a n z) (hnil : a = none → n = 0 ∧ c = 0) :
    Calls Try.prog 5 #[.slice a n c, .int .i64 i] w fun e w' => e = .returned (.bool true) ∧ Below w.heap.size w w' := by
  by_cases hn : n ≤ 1048576
  · by_cases hi0 : i < 0
    · go_enter Try.func5, Try.ntmps5
      go_wp2_with (go_at_call 16; refine (bytes16_yes _ _ _ _ _ hn).mono ?_; rintro e w' ⟨rfl, rfl⟩)
      go_ret
      exact ⟨rfl, Below.refl _ _⟩
    · by_cases hin : (n : Int) ≤ i
      · go_enter Try.func5, Try.ntmps5
        go_wp2_with (first
          | (go_at_call 16; refine (bytes16_yes _ _ _ _ _ hn).mono ?_; rintro e w' ⟨rfl, rfl⟩)
          | (go_at_call 11; refine (copy_any _ _ _ z _ hB hnil hn).mono ?_; rintro e w1 ⟨a1, c1, rfl, hb1, hB1⟩)
          | (go_at_call 29; refine (dest_past _ _ _ _ _ hin).mono ?_; rintro e w2 ⟨rfl, rfl⟩)
          | (go_at_call 18; refine (mdest_past _ _ _ _ _ hin).mono ?_; rintro e w2 ⟨rfl, rfl⟩)
          | (go_at_call 17; go_in))
        go_ret
        exact ⟨rfl, by assumption⟩
      · obtain ⟨k, rfl⟩ : ∃ k : Nat, i = k := ⟨i.toNat, by omega⟩
        have hkl : k < n := by omega
        by_cases ho : z k = 60
        · go_enter Try.func5, Try.ntmps5
          go_wp2_with (first
            | (go_at_call 16; refine (bytes16_yes _ _ _ _ _ hn).mono ?_; rintro e w' ⟨rfl, rfl⟩)
            | (go_at_call 11; refine (copy_any _ _ _ z _ hB hnil hn).mono ?_; rintro e w1 ⟨a1, c1, rfl, hb1, hB1⟩; obtain ⟨b1, off1, rfl, hc1⟩ := hB1 (by omega))
            | (go_at_call 29; refine (dest_angle _ _ _ _ z _ hc1 hn k hkl ho).mono ?_; rintro e w2 ⟨⟨r, ok, rfl, hr⟩, rfl⟩)
            | (go_at_call 18; refine (mdest_angle _ _ _ _ z _ hc1 hn k hkl ho).mono ?_; rintro e w2 ⟨⟨r2, ok2, rfl, hr2⟩, rfl⟩; obtain ⟨rfl, rfl⟩ := ares_unique hr hr2)
            | (go_at_call 17; go_in))
          go_ret
          exact ⟨rfl, by assumption⟩
        · go_enter Try.func5, Try.ntmps5
          go_wp2_with (first
            | (go_at_call 16; refine (bytes16_yes _ _ _ _ _ hn).mono ?_; rintro e w' ⟨rfl, rfl⟩)
            | (go_at_call 11; refine (copy_any _ _ _ z _ hB hnil hn).mono ?_; rintro e w1 ⟨a1, c1, rfl, hb1, hB1⟩; obtain ⟨b1, off1, rfl, hc1⟩ := hB1 (by omega))
            | (go_at_call 29; refine (dest_plain _ _ _ _ z _ hc1 hn k hkl ho).mono ?_; rintro e w2 ⟨⟨r, ok, rfl, hr⟩, rfl⟩)
            | (go_at_call 18; refine (mdest_plain _ _ _ _ z _ hc1 hn k hkl ho).mono ?_; rintro e w2 ⟨⟨r2, ok2, rfl, hr2⟩, rfl⟩; obtain ⟨rfl, rfl⟩ := pres_unique hr hr2)
            | (go_at_call 17; go_in))
          go_ret
          exact ⟨rfl, by assumption⟩
  · go_enter Try.func5, Try.ntmps5
    go_wp2_with (go_at_call 16; refine (bytes16_no _ _ _ _ _ (by omega)).mono ?_; rintro e w' ⟨rfl, rfl⟩)
    go_ret
    exact ⟨rfl, Below.refl _ _⟩
end Go.Proofs.Qxb6601983a
