/-
  THE WALK OF zzModelDestination (seat b6601983a).
-/
import Derived.Test.Qxb6601983aDest
namespace Go.Proofs.Qxb6601983a
open Go.RowKit Plain

set_option maxHeartbeats 400000 in
theorem mdest_past (a : Option Addr) (n c : Nat) (i : Int) (w : World) (hi : (n : Int) ≤ i) :
    Calls Try.prog 18 #[.slice a n c, .int .i64 i] w fun e w' => e = .returned (.tuple #[.int .i64 i, .bool true]) ∧ w' = w := by
  go_enter Try.func18, Try.ntmps18
  go_wp2
  go_ret2
  exact ⟨rfl, rfl⟩

theorem odd_at' (b off n c : Nat) (z : Nat → Int) (w : World) (hc : ∀ j, j < n → w.cell? ⟨b, off + j, none⟩ = some (.int .u8 (z j))) (hn : n ≤ 1048576)
    (i k : Nat) (hlo : i + 1 ≤ k) (hk : k < n) :
    Calls Try.prog 28 #[.slice (some ⟨b, off, none⟩) n c, .int .i64 ((i : Int) + 1), .int .i64 k] w fun e w' => e = .returned (.bool (esc z (i + 1) k)) ∧ w' = w := by
  have := odd_any b off n c z w hc hn (i + 1) k hlo hk
  simpa using this

set_option maxHeartbeats 1600000 in
theorem mdest_angle (b off n c : Nat) (z : Nat → Int) (w : World) (hc : ∀ j, j < n → w.cell? ⟨b, off + j, none⟩ = some (.int .u8 (z j))) (hn : n ≤ 1048576)
    (i : Nat) (hi : i < n) (ho : z i = 60) :
    Calls Try.prog 18 #[.slice (some ⟨b, off, none⟩) n c, .int .i64 i] w fun e w' => AEnd z n i e ∧ w' = w := by
  have hcell := hc i hi
  have hni : ¬ n ≤ i := by omega
  go_enter Try.func18, Try.ntmps18
  go_wp2
  go_loop [6, 7] (fun j _ => ∃ k : Nat, i + 1 ≤ k ∧ k ≤ n ∧ NoneIn (AStop z i) (i + 1) k ∧ j = .int .i64 k) (fun j _ => n - (intOf j).toNat)
  case atStart => exact ⟨i + 1, by omega, by omega, none_start _ _, by go_num⟩
  case round =>
    obtain ⟨k, hk1, hk2, hR, rfl⟩ := hrel
    by_cases hlt : k < n
    · have hck := hc k hlt
      by_cases h10 : z k = 10
      · go_wp2
        go_ret2
        exact ⟨aend (amod_line hR hk1 hlt h10), rfl⟩
      · by_cases h60 : z k = 60
        · by_cases he : esc z (i + 1) k = true
          · go_wp2_with (go_at_call 28; refine (odd_at' b off n c z _ hc hn i k hk1 hlt).mono ?_; rintro e w' ⟨rfl, rfl⟩)
            go_round
            case rel => exact ⟨k + 1, by omega, by omega, amod_esc hR h10 he, by go_num⟩
            case measure => simp [intOf]; omega
          · have he' : esc z (i + 1) k = false := by simpa using he
            go_wp2_with (go_at_call 28; refine (odd_at' b off n c z _ hc hn i k hk1 hlt).mono ?_; rintro e w' ⟨rfl, rfl⟩)
            go_ret2
            exact ⟨aend (amod_less hR hk1 hlt h60 he'), rfl⟩
        · by_cases h62 : z k = 62
          · by_cases he : esc z (i + 1) k = true
            · go_wp2_with (go_at_call 28; refine (odd_at' b off n c z _ hc hn i k hk1 hlt).mono ?_; rintro e w' ⟨rfl, rfl⟩)
              go_round
              case rel => exact ⟨k + 1, by omega, by omega, amod_esc hR h10 he, by go_num⟩
              case measure => simp [intOf]; omega
            · have he' : esc z (i + 1) k = false := by simpa using he
              go_wp2_with (go_at_call 28; refine (odd_at' b off n c z _ hc hn i k hk1 hlt).mono ?_; rintro e w' ⟨rfl, rfl⟩)
              go_ret2
              exact ⟨aend (amod_hit hR hk1 hlt h62 he'), rfl⟩
          · have g1 : (z k != 60) = true := by simpa using h60
            have g2 : (z k != 62) = true := by simpa using h62
            go_wp2
            go_round
            case rel => exact ⟨k + 1, by omega, by omega, amod_pass hR h10 h60 h62, by go_num⟩
            case measure => simp [intOf]; omega
    · go_wp2
      go_ret2
      exact ⟨aend (amod_end hR hk2 hlt), rfl⟩

theorem dend_eq2 {z : Nat → Int} {n i : Nat} {r : Int} {o c : Nat} (h : PRes z n i r (decide ((o : Int) = c))) : DEnd z n i (.returned (.tuple #[.int .i64 r, .bool ((o : Int) == (c : Int))])) := ⟨r, _, rfl, h⟩

set_option maxHeartbeats 1600000 in
theorem mdest_plain (b off n c : Nat) (z : Nat → Int) (w : World) (hc : ∀ j, j < n → w.cell? ⟨b, off + j, none⟩ = some (.int .u8 (z j))) (hn : n ≤ 1048576)
    (i : Nat) (hi : i < n) (ho : z i ≠ 60) :
    Calls Try.prog 18 #[.slice (some ⟨b, off, none⟩) n c, .int .i64 i] w fun e w' => DEnd z n i e ∧ w' = w := by
  have hcell := hc i hi
  have hni : ¬ n ≤ i := by omega
  have hob : (z i == 60) = false := by simpa using ho
  go_enter Try.func18, Try.ntmps18
  go_wp2
  go_loop [8] (fun j => ∃ k : Nat, WRun z n i k ∧ j = .int .i64 k) (fun j => n - (intOf j).toNat)
  case atStart => exact ⟨i, wrun_start hi, rfl⟩
  case round =>
    obtain ⟨m, hW, rfl⟩ := hrel
    have hm1 := hW.1
    have hm2 := hW.2.1
    by_cases hgo : m < n ∧ whiteB (z m) = false
    · obtain ⟨hlt, hw⟩ := hgo
      have hck := hc m hlt
      go_wp2_with (go_at_call 20; refine (white_any _ _).mono ?_; rintro e w' ⟨rfl, rfl⟩)
      go_round
      case rel => exact ⟨m + 1, wrun_step hW hlt hw, by go_num⟩
      case measure => simp [intOf]; omega
    · have hE : WEnd z n i m := ⟨hW, fun h => by cases hw : whiteB (z m) with | true => rfl | false => exact absurd ⟨h, hw⟩ hgo⟩
      clear hgo
      have HE : Hid (WEnd z n i m) := hE
      clear hE hW
      by_cases hlt : m < n
      all_goals
        first
          | (have hck := hc m hlt
             have hw := HE.out.2 hlt
             go_wp2_with (go_at_call 20; refine (white_any _ _).mono ?_; rintro e w' ⟨rfl, rfl⟩))
          | go_wp2
        go_loop [9, 10, 11, 12] (fun o c j _ => ∃ k p q : Nat, MRel z i m k p q ∧ j = .int .i64 k ∧ o = .int .i64 p ∧ c = .int .i64 q) (fun _ _ j _ => n - (intOf j).toNat)
        case atStart => exact ⟨i, 0, 0, mrel_start HE.out, rfl, rfl, rfl⟩
        case round =>
          obtain ⟨k, p, q, hR, rfl, rfl, rfl⟩ := hrel
          have hk1 := hR.1
          have hk2 := hR.2.1
          have hp := hR.2.2.2.2.1
          have hq := hR.2.2.2.2.2
          by_cases hkm : k < m
          · have hkn : k < n := by omega
            have hck := hc k hkn
            by_cases h40 : z k = 40
            · by_cases he : esc z i k = true
              · go_wp2_with (go_at_call 28; refine (odd_any b off n c z _ hc hn i k hk1 hkn).mono ?_; rintro e w' ⟨rfl, rfl⟩)
                go_round
                case rel => exact ⟨k + 1, p, q, mrel_esc HE.out hR hkm he, by go_num, rfl, rfl⟩
                case measure => simp [intOf]; omega
              · have he' : esc z i k = false := by simpa using he
                by_cases hd : 32 < (p : Int) + 1 - q
                · go_wp2_with (go_at_call 28; refine (odd_any b off n c z _ hc hn i k hk1 hkn).mono ?_; rintro e w' ⟨rfl, rfl⟩)
                  go_ret2
                  exact ⟨dend (mrel_deep HE.out hR hkm he' h40 (by omega)), rfl⟩
                · go_wp2_with (go_at_call 28; refine (odd_any b off n c z _ hc hn i k hk1 hkn).mono ?_; rintro e w' ⟨rfl, rfl⟩)
                  go_round
                  case rel => exact ⟨k + 1, p + 1, q, mrel_open HE.out hR hkm he' h40 (by omega), by go_num, by go_num, rfl⟩
                  case measure => simp [intOf]; omega
            · by_cases h41 : z k = 41
              · by_cases he : esc z i k = true
                · go_wp2_with (go_at_call 28; refine (odd_any b off n c z _ hc hn i k hk1 hkn).mono ?_; rintro e w' ⟨rfl, rfl⟩)
                  go_round
                  case rel => exact ⟨k + 1, p, q, mrel_esc HE.out hR hkm he, by go_num, rfl, rfl⟩
                  case measure => simp [intOf]; omega
                · have he' : esc z i k = false := by simpa using he
                  by_cases hd : p = q
                  · have hd' : ((p : Int) == (q : Int)) = true := by simp; omega
                    have HD : Hid (p = q) := hd
                    clear hd
                    go_wp2_with (go_at_call 28; refine (odd_any b off n c z _ hc hn i k hk1 hkn).mono ?_; rintro e w' ⟨rfl, rfl⟩)
                    go_ret2
                    exact ⟨dend (mrel_out HE.out hR hkm he' h41 (by have := HD.out; omega)), rfl⟩
                  · have hd' : ((p : Int) == (q : Int)) = false := by simp; omega
                    go_wp2_with (go_at_call 28; refine (odd_any b off n c z _ hc hn i k hk1 hkn).mono ?_; rintro e w' ⟨rfl, rfl⟩)
                    go_round
                    case rel => exact ⟨k + 1, p, q + 1, mrel_close HE.out hR hkm he' h41 (by omega), by go_num, rfl, by go_num⟩
                    case measure => simp [intOf]; omega
              · have g1 : (z k != 40) = true := by simpa using h40
                have g2 : (z k != 41) = true := by simpa using h41
                go_wp2
                go_round
                case rel => exact ⟨k + 1, p, q, mrel_pass HE.out hR hkm h40 h41, by go_num, rfl, rfl⟩
                case measure => simp [intOf]; omega
          · go_wp2
            go_ret2
            exact ⟨dend_eq2 (mrel_end HE.out hR hkm), rfl⟩
end Go.Proofs.Qxb6601983a
