/-
  THE WALKS OF listMarker AND zzMarker (seat b6601983a).
-/
import Derived.Test.Qxb6601983aListLeaves
namespace Go.Proofs.Qxb6601983a
open Go.RowKit Plain

theorem bullet_parts {c : Int} (h : bulletB c = true) : c = 45 ∨ c = 43 ∨ c = 42 := by
  simp [bulletB] at h; omega
theorem bullet_not {c : Int} (h : bulletB c = false) : (c == 45) = false ∧ (c == 43) = false ∧ (c == 42) = false := by
  simp [bulletB] at h; simp [h]

theorem mark_bullet {z : Nat → Int} {n f d : Nat} (h : bulletB (z f) = true) : markW z n f d = 1 ∧ markO z n f d = true := by
  simp [markW, markO, h]
theorem mark_none {z : Nat → Int} {n f d : Nat} (h : bulletB (z f) = false) (h1 : d = 0 ∨ 9 < d ∨ n ≤ f + d) : markW z n f d = 0 ∧ markO z n f d = false := by
  simp [markW, markO, h, h1]
theorem mark_other {z : Nat → Int} {n f d : Nat} (h : bulletB (z f) = false) (h2 : z (f + d) ≠ 46) (h3 : z (f + d) ≠ 41) : markW z n f d = 0 ∧ markO z n f d = false := by
  simp [markW, markO, h, h2, h3]
theorem mark_num {z : Nat → Int} {n f d : Nat} (h : bulletB (z f) = false) (h1 : ¬ (d = 0 ∨ 9 < d ∨ n ≤ f + d)) (h2 : z (f + d) = 46 ∨ z (f + d) = 41) : markW z n f d = d + 1 ∧ markO z n f d = decide (numD z f d = 1) := by
  unfold markW markO
  rw [if_neg (by rw [h]; decide), if_neg h1, if_pos h2, if_neg (by rw [h]; decide), if_neg h1, if_pos h2]
  exact ⟨rfl, rfl⟩

/-- A call's ending: the marker's width, and whether it is no number other than 1. -/
def MEnd (z : Nat → Int) (n f d : Nat) (e : Ending) : Prop := e = .returned (.tuple #[.int .i64 (markW z n f d : Nat), .bool (markO z n f d)])
theorem mend {z : Nat → Int} {n f d W : Nat} {o : Bool} {x : Int} (h : markW z n f d = W ∧ markO z n f d = o) (hx : x = (W : Int)) : MEnd z n f d (.returned (.tuple #[.int .i64 x, .bool o])) := by
  unfold MEnd; rw [h.1, h.2, hx]

set_option maxHeartbeats 1600000 in
/-- artifact.listMarker, called with the text from place f on: m bytes. -/
theorem marker_any (b off m c n : Nat) (z : Nat → Int) (w : World) (f d : Nat) (hm : f + m = n) (hm0 : 0 < m) (hc : ∀ j, j < m → w.cell? ⟨b, off + j, none⟩ = some (.int .u8 (z (f + j))))
    (hd : DigEnd z n f d) :
    Calls Try.prog 36 #[.slice (some ⟨b, off, none⟩) m c] w fun e w' => MEnd z n f d e ∧ w' = w := by
  have hcell0 : w.cell? ⟨b, off, none⟩ = some (.int .u8 (z f)) := by simpa using hc 0 hm0
  have hd1 := hd.1
  have hm' : (0 : Int) < m := by omega
  by_cases hb : bulletB (z f) = true
  · have hM := mark_bullet (n := n) (d := d) hb
    have HM : Hid _ := hM
    clear hM
    rcases bullet_parts hb with h | h | h
    all_goals
      go_enter Try.func36, Try.ntmps36
      go_wp2
      go_ret2
      exact ⟨mend HM.out rfl, rfl⟩
  · have hb' : bulletB (z f) = false := by simpa using hb
    obtain ⟨b1, b2, b3⟩ := bullet_not hb'
    go_enter Try.func36, Try.ntmps36
    go_wp2
    go_loop [5, 6] (fun j x => ∃ k : Nat, k ≤ d ∧ k ≤ 10 ∧ j = .int .i64 k ∧ x = .int .i64 (numD z f k)) (fun j _ => m - (intOf j).toNat)
    case atStart => exact ⟨0, by omega, by omega, rfl, rfl⟩
    case round =>
      obtain ⟨k, hk1, hk2, rfl, rfl⟩ := hrel
      have hnb := num_bd z f k (fun j hj => hd.2.1 j (by omega)) hk2
      by_cases hgo : k < d ∧ k < 10
      · obtain ⟨hkd, hk10⟩ := hgo
        have hkm : k < m := by omega
        have hck := hc k hkm
        have hdg := hd.2.1 k hkd
        have hdg' : 48 ≤ z (f + k) ∧ z (f + k) ≤ 57 := by simpa [digitB] using hdg
        obtain ⟨g1, g2⟩ := hdg'
        have hnb9 := num_pow z f k (fun j hj => hd.2.1 j (by omega))
        have hp9 : (10 : Int) ^ k ≤ 10 ^ 9 := by
          have : 10 ^ k ≤ 10 ^ 9 := Nat.pow_le_pow_right (by decide) (by omega)
          exact_mod_cast this
        have hp9' : (10 : Int) ^ 9 = 1000000000 := by decide
        have hnb3 : numD z f k < 1000000000 := by omega
        clear hnb9 hp9 hp9' 
        go_wp2_with (go_at_call 41; refine (digit_any _ _).mono ?_; rintro e w' ⟨rfl, rfl⟩)
        go_round
        case rel => exact ⟨k + 1, by omega, by omega, by go_num, by show _ = Value.int .i64 (numD z f k * 10 + (z (f + k) - 48)); first | rfl | go_num⟩
        case measure => simp [intOf]; omega
      · by_cases hk10 : k = 10
        · subst hk10
          have HM : Hid _ := mark_none (z := z) (n := n) (f := f) (d := d) hb' (by omega)
          by_cases hkm : 10 < m
          · go_wp2
            go_ret2
            exact ⟨mend HM.out rfl, rfl⟩
          · go_wp2
            go_ret2
            exact ⟨mend HM.out rfl, rfl⟩
        · obtain rfl : k = d := by omega
          have hk9 : k ≤ 9 := by omega
          clear hgo
          by_cases hkm : k < m
          · have hck := hc k hkm
            have hdg := hd.2.2 (by omega)
            by_cases h0 : k = 0
            · have HM : Hid _ := mark_none (z := z) (n := n) (f := f) (d := k) hb' (by omega)
              subst h0
              simp only [Nat.add_zero] at hck hdg
              go_wp2_with (go_at_call 41; refine (digit_any _ _).mono ?_; rintro e w' ⟨rfl, rfl⟩)
              go_ret2
              exact ⟨mend HM.out rfl, rfl⟩
            · have h0' : ((k : Int) == 0) = false := by simp; omega
              have hne : ((k : Int) == (m : Int)) = false := by simp; omega
              by_cases h46 : z (f + k) = 46
              · have HM : Hid _ := mark_num (z := z) (n := n) (f := f) (d := k) hb' (by omega) (.inl h46)
                go_wp2_with (go_at_call 41; refine (digit_any _ _).mono ?_; rintro e w' ⟨rfl, rfl⟩)
                go_ret2
                exact ⟨mend HM.out (by simp), rfl⟩
              · by_cases h41 : z (f + k) = 41
                · have HM : Hid _ := mark_num (z := z) (n := n) (f := f) (d := k) hb' (by omega) (.inr h41)
                  go_wp2_with (go_at_call 41; refine (digit_any _ _).mono ?_; rintro e w' ⟨rfl, rfl⟩)
                  go_ret2
                  exact ⟨mend HM.out (by simp), rfl⟩
                · have HM : Hid _ := mark_other (z := z) (n := n) (f := f) (d := k) hb' h46 h41
                  have g46 : (z (f + k) != 46) = true := by simpa using h46
                  have g41 : (z (f + k) != 41) = true := by simpa using h41
                  go_wp2_with (go_at_call 41; refine (digit_any _ _).mono ?_; rintro e w' ⟨rfl, rfl⟩)
                  go_ret2
                  exact ⟨mend HM.out rfl, rfl⟩
          · obtain rfl : k = m := by omega
            have HM : Hid _ := mark_none (z := z) (n := n) (f := f) (d := k) hb' (by omega)
            have h0' : ((k : Int) == 0) = false := by simp; omega
            go_wp2
            go_ret2
            exact ⟨mend HM.out rfl, rfl⟩

set_option maxHeartbeats 1600000 in
/-- zzMarker. -/
theorem zmarker_any (b off n c : Nat) (z : Nat → Int) (w : World) (f d : Nat) (hf : f < n) (hc : ∀ j, j < n → w.cell? ⟨b, off + j, none⟩ = some (.int .u8 (z j))) (hn : n ≤ 1048576)
    (hd : DigEnd z n f d) :
    Calls Try.prog 32 #[.slice (some ⟨b, off, none⟩) n c, .int .i64 f] w fun e w' => MEnd z n f d e ∧ w' = w := by
  have hcell0 := hc f hf
  have hd1 := hd.1
  by_cases hb : bulletB (z f) = true
  · have hM := mark_bullet (n := n) (d := d) hb
    have HM : Hid _ := hM
    clear hM
    rcases bullet_parts hb with h | h | h
    all_goals
      go_enter Try.func32, Try.ntmps32
      go_wp2
      go_ret2
      exact ⟨mend HM.out rfl, rfl⟩
  · have hb' : bulletB (z f) = false := by simpa using hb
    obtain ⟨b1, b2, b3⟩ := bullet_not hb'
    go_enter Try.func32, Try.ntmps32
    go_wp2
    go_loop [7] (fun j => ∃ k : Nat, k ≤ d ∧ j = .int .i64 k) (fun j => n - (intOf j).toNat)
    case atStart => exact ⟨0, by omega, rfl⟩
    case round =>
      obtain ⟨k, hk1, rfl⟩ := hrel
      by_cases hkd : k < d
      · have hkm : f + k < n := by omega
        have hck := hc (f + k) hkm
        have hdg := hd.2.1 k hkd
        have hdg' : 48 ≤ z (f + k) ∧ z (f + k) ≤ 57 := by simpa [digitB] using hdg
        obtain ⟨g1, g2⟩ := hdg'
        go_wp2
        go_round
        case rel => exact ⟨k + 1, by omega, by go_num⟩
        case measure => simp [intOf]; omega
      · obtain rfl : k = d := by omega
        clear hkd
        by_cases hkm : f + k < n
        · have hck := hc (f + k) hkm
          have hdg := hd.2.2 hkm
          have hdg' : z (f + k) < 48 ∨ 57 < z (f + k) := by simp [digitB] at hdg; omega
          by_cases h0 : k = 0
          · have HM : Hid _ := mark_none (z := z) (n := n) (f := f) (d := k) hb' (by omega)
            subst h0
            simp only [Nat.add_zero] at hck hdg hdg' hkm
            rcases hdg' with hdg' | hdg'
            · go_wp2
              go_ret2
              exact ⟨mend HM.out rfl, rfl⟩
            · have hdg2 : 48 ≤ z f := by omega
              go_wp2
              go_ret2
              exact ⟨mend HM.out rfl, rfl⟩
          · have h0' : ((k : Int) == 0) = false := by simp; omega
            by_cases h9 : 9 < k
            · have HM : Hid _ := mark_none (z := z) (n := n) (f := f) (d := k) hb' (by omega)
              rcases hdg' with hdg' | hdg'
              · go_wp2
                go_ret2
                exact ⟨mend HM.out rfl, rfl⟩
              · have hdg2 : 48 ≤ z (f + k) := by omega
                go_wp2
                go_ret2
                exact ⟨mend HM.out rfl, rfl⟩
            · have hkm2 : ¬ n ≤ f + k := by omega
              by_cases h46 : z (f + k) = 46 ∨ z (f + k) = 41
              · have HM : Hid _ := mark_num (z := z) (n := n) (f := f) (d := k) hb' (by omega) h46
                have hcq := hc (f + k - 1) (by omega)
                have hN : Hid (∀ j, j < k → digitB (z (f + j)) = true) := hd.2.1
                rcases h46 with h46 | h46
                all_goals
                  go_wp2
                  go_loop [8, 9] (fun o j => ∃ (t : Nat) (bv : Bool), t ≤ k - 1 ∧ j = .int .i64 (f + t : Nat) ∧ o = .bool bv ∧ bv = (decide (z (f + k - 1) = 49) && zerosB z f t)) (fun _ j => n - (intOf j).toNat)
                  case atStart => exact ⟨0, _, by omega, rfl, rfl, by simp [zerosB]; rfl⟩
                  case round =>
                    obtain ⟨t, bv, ht, rfl, rfl, hbv⟩ := hrel
                    have HB : Hid (bv = (decide (z (f + k - 1) = 49) && zerosB z f t)) := hbv
                    clear hbv
                    have hzs : zerosB z f (t + 1) = (zerosB z f t && decide (z (f + t) = 48)) := rfl
                    have HZ : Hid (zerosB z f (t + 1) = (zerosB z f t && decide (z (f + t) = 48))) := hzs
                    clear hzs
                    by_cases hlt : t < k - 1
                    · have hct := hc (f + t) (by omega)
                      have hft : f + t < n := by omega
                      by_cases h48 : z (f + t) = 48
                      · go_wp2
                        go_round
                        case rel => exact ⟨t + 1, bv, by omega, by go_num, rfl, by rw [HZ.out, HB.out]; simp [h48]⟩
                        case measure => simp [intOf]; omega
                      · have g48 : (z (f + t) != 48) = true := by simpa using h48
                        go_wp2
                        go_round
                        case rel => exact ⟨t + 1, false, by omega, by go_num, rfl, by rw [HZ.out]; simp [h48]⟩
                        case measure => simp [intOf]; omega
                    · obtain rfl : t = k - 1 := by omega
                      have hE : bv = decide (numD z f k = 1) := by
                        have := num_one z f (k - 1) (fun j hj => hN.out j (by omega))
                        rw [show k - 1 + 1 = k from by omega, show f + (k - 1) = f + k - 1 from by omega] at this
                        rw [HB.out]; exact this
                      have HE : Hid _ := hE
                      clear hE
                      go_wp2
                      go_ret2
                      exact ⟨mend ⟨HM.out.1, HM.out.2.trans HE.out.symm⟩ (by simp), rfl⟩
              · have h1 : z (f + k) ≠ 46 := fun h => h46 (.inl h)
                have h2 : z (f + k) ≠ 41 := fun h => h46 (.inr h)
                have HM : Hid _ := mark_other (z := z) (n := n) (f := f) (d := k) hb' h1 h2
                have g46 : (z (f + k) != 46) = true := by simpa using h1
                have g41 : (z (f + k) != 41) = true := by simpa using h2
                clear h46
                rcases hdg' with hdg' | hdg'
                · go_wp2
                  go_ret2
                  exact ⟨mend HM.out rfl, rfl⟩
                · have hdg2 : 48 ≤ z (f + k) := by omega
                  go_wp2
                  go_ret2
                  exact ⟨mend HM.out rfl, rfl⟩
        · have HM : Hid _ := mark_none (z := z) (n := n) (f := f) (d := k) hb' (by omega)
          by_cases h0 : k = 0
          · omega
          · have h0' : ((k : Int) == 0) = false := by simp; omega
            by_cases h9 : 9 < k
            · go_wp2
              go_ret2
              exact ⟨mend HM.out rfl, rfl⟩
            · go_wp2
              go_ret2
              exact ⟨mend HM.out rfl, rfl⟩
end Go.Proofs.Qxb6601983a
