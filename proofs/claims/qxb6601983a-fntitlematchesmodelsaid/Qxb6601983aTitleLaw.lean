/-
  THE LAW FnTitleMatchesModel (seat b6601983a): her walk.
-/
import Derived.Test.Qxb6601983aTitleModel
namespace Go.Proofs.Qxb6601983a
open Go.RowKit Plain

set_option maxHeartbeats 1600000 in
theorem title_law (a : Option Addr) (n c : Nat) (z : Nat → Int) (i : Int) (w : World) (hB : Bs w a n z) (hnil : a = none → n = 0 ∧ c = 0) :
    Calls Try.prog 3 #[.slice a n c, .int .i64 i] w fun e w' => e = .returned (.bool true) ∧ Below w.heap.size w w' := by
  by_cases hn : n ≤ 1048576
  · by_cases hi0 : i < 0
    · go_enter Try.func3, Try.ntmps3
      go_wp2_with (go_at_call 10; refine (bytes10_yes _ _ _ _ _ hn).mono ?_; rintro e w' ⟨rfl, rfl⟩)
      go_ret
      exact ⟨rfl, Below.refl _ _⟩
    · by_cases hin : (n : Int) < i
      · go_enter Try.func3, Try.ntmps3
        go_wp2_with (go_at_call 10; refine (bytes10_yes _ _ _ _ _ hn).mono ?_; rintro e w' ⟨rfl, rfl⟩)
        go_ret
        exact ⟨rfl, Below.refl _ _⟩
      · obtain ⟨k, rfl⟩ : ∃ k : Nat, i = k := ⟨i.toNat, by omega⟩
        have hkn : k ≤ n := by omega
        by_cases he : k = n
        · subst he
          go_enter Try.func3, Try.ntmps3
          go_wp2_with (first
            | (go_at_call 10; refine (bytes10_yes _ _ _ _ _ hn).mono ?_; rintro e w' ⟨rfl, rfl⟩)
            | (go_at_call 11; refine (copy_any _ _ _ z _ hB hnil hn).mono ?_; rintro e w1 ⟨a1, c1, rfl, hb1, hB1⟩)
            | (go_at_call 27; refine (title_at_end _ _ _ _).mono ?_; rintro e w2 ⟨rfl, rfl⟩)
            | (go_at_call 13; refine (model_at_end _ _ _ _).mono ?_; rintro e w2 ⟨rfl, rfl⟩)
            | (go_at_call 12; go_in))
          go_ret
          exact ⟨rfl, by assumption⟩
        · have hkl : k < n := by omega
          by_cases ho : ∃ cl, Opens (z k) cl
          · obtain ⟨cl, ho⟩ := ho
            go_enter Try.func3, Try.ntmps3
            go_wp2_with (first
              | (go_at_call 10; refine (bytes10_yes _ _ _ _ _ hn).mono ?_; rintro e w' ⟨rfl, rfl⟩)
              | (go_at_call 11; refine (copy_any _ _ _ z _ hB hnil hn).mono ?_; rintro e w1 ⟨a1, c1, rfl, hb1, hB1⟩; obtain ⟨b1, off1, rfl, hc1⟩ := hB1 (by omega))
              | (go_at_call 27; refine (title_some _ _ _ _ z _ hc1 hn k hkl cl ho).mono ?_; rintro e w2 ⟨⟨r, ok, rfl, hr⟩, rfl⟩)
              | (go_at_call 13; refine (model_some _ _ _ _ z _ hc1 hn k hkl cl ho).mono ?_; rintro e w2 ⟨⟨r2, ok2, rfl, hr2⟩, rfl⟩; obtain ⟨rfl, rfl⟩ := tres_unique hr hr2)
              | (go_at_call 12; go_in))
            go_ret
            exact ⟨rfl, by assumption⟩
          · have h1 : z k ≠ 34 := fun h => ho ⟨34, .inl ⟨h, rfl⟩⟩
            have h2 : z k ≠ 39 := fun h => ho ⟨39, .inr (.inl ⟨h, rfl⟩)⟩
            have h3 : z k ≠ 40 := fun h => ho ⟨41, .inr (.inr ⟨h, rfl⟩)⟩
            go_enter Try.func3, Try.ntmps3
            go_wp2_with (first
              | (go_at_call 10; refine (bytes10_yes _ _ _ _ _ hn).mono ?_; rintro e w' ⟨rfl, rfl⟩)
              | (go_at_call 11; refine (copy_any _ _ _ z _ hB hnil hn).mono ?_; rintro e w1 ⟨a1, c1, rfl, hb1, hB1⟩; obtain ⟨b1, off1, rfl, hc1⟩ := hB1 (by omega))
              | (go_at_call 27; refine (title_none _ _ _ _ z _ hc1 k hkl h1 h2 h3).mono ?_; rintro e w2 ⟨rfl, rfl⟩)
              | (go_at_call 13; refine (model_none _ _ _ _ z _ hc1 k hkl h1 h2 h3).mono ?_; rintro e w2 ⟨rfl, rfl⟩)
              | (go_at_call 12; go_in))
            go_ret
            exact ⟨rfl, by assumption⟩
  · go_enter Try.func3, Try.ntmps3
    go_wp2_with (go_at_call 10; refine (bytes10_no _ _ _ _ _ (by omega)).mono ?_; rintro e w' ⟨rfl, rfl⟩)
    go_ret
    exact ⟨rfl, Below.refl _ _⟩

end Go.Proofs.Qxb6601983a
