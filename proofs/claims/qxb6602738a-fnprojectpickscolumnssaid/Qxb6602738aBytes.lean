/-
  THE TWO COUNTS OF BYTES (seat b6602738a): zzBytes_FnProjectPicksColumns, rowsBytesSqlB1.
-/
import Derived.Test.Qxb6602738aReaders
namespace Go.Proofs.Qxb6602738a
open Go.RowKit Go.Deep

set_option maxHeartbeats 1600000 in
theorem zzbytes_any (a : Option Addr) (n c : Nat) (A : Nat → Option Addr) (L C : Nat → Nat) (K I : Nat → Nat → Int) (S : Nat → Nat → ByteArray) (pa : Option Addr) (p pc : Nat) (width : Int) (w : World) (hR : RowsAt w a n A L C K I S) (hF : Fits n A L C S) (hnm : n ≤ maxLen) (hpm : p ≤ maxLen) :
    Calls Try.prog 11 #[.slice a n c, .slice pa p pc, .int .i64 width] w fun e w' => YesIf (n ≤ 1048576 ∧ p ≤ 1048576) e ∧ w' = w := by
  unfold maxLen at hnm hpm
  by_cases hn : n ≤ 1048576
  · go_enter Try.func11, Try.ntmps11
    go_wp2
    go_loop [7, 8, 9] (fun x i _ => ∃ (k : Nat) (y : Int), k ≤ n ∧ i = .int .i64 k ∧ x = .int .i64 y ∧ 0 ≤ y ∧ y ≤ 1048576) (fun _ i _ => n - (intOf i).toNat)
    case atStart => exact ⟨0, _, by omega, rfl, rfl, by omega, by omega⟩
    case round =>
      obtain ⟨k, y, hk, rfl, rfl, hy0, hy1⟩ := hrel
      by_cases hlt : k < n
      · obtain ⟨b, o, rfl, hr⟩ := hR (by omega)
        have hck := (hr k hlt).1
        have hrow := (hr k hlt).2
        have hle := hF.le k hlt
        have hst := fun j hj => hF.str k j hlt hj
        unfold maxLen at hle
        by_cases h1 : 1048576 < L k
        · go_wp2
          go_ret
          exact ⟨yes_no, rfl⟩
        · by_cases h2 : 1048576 < y + L k
          · go_wp2
            go_ret
            exact ⟨yes_no, rfl⟩
          · go_wp2
            go_loop [7, 9] (fun x i => ∃ (m : Nat) (y : Int), m ≤ L k ∧ i = .int .i64 m ∧ x = .int .i64 y ∧ 0 ≤ y ∧ y ≤ 1048576) (fun _ i => L k - (intOf i).toNat)
            case atStart => exact ⟨0, _, by omega, rfl, rfl, by omega, by omega⟩
            case round =>
              obtain ⟨m, y', hm, rfl, rfl, hy0', hy1'⟩ := hrel
              by_cases hlm : m < L k
              · obtain ⟨b2, o2, hA, hv⟩ := hrow (by omega)
                rw [hA] at hck
                have hcs := (hv m hlm).2.2
                have hss := hst m hlm
                unfold maxLen at hss
                by_cases h3 : 1048576 < (S k m).size
                · go_wp2
                  go_ret
                  exact ⟨yes_no, rfl⟩
                · by_cases h4 : 1048576 < y' + (S k m).size
                  · go_wp2
                    go_ret
                    exact ⟨yes_no, rfl⟩
                  · go_wp2
                    go_round
                    case rel => exact ⟨m + 1, _, by omega, by go_num, rfl, by omega, by omega⟩
                    case measure => simp [intOf]; omega
              · go_wp2
                go_round
                case rel => exact ⟨k + 1, _, by omega, by go_num, rfl, by omega, by omega⟩
                case measure => simp [intOf]; omega
      · by_cases h5 : 1048576 < p
        · go_wp2
          go_ret
          exact ⟨yes_no, rfl⟩
        · by_cases h6 : 1048576 < y + p
          · go_wp2
            go_ret
            exact ⟨yes_no, rfl⟩
          · go_wp2
            go_ret
            exact ⟨yes_yes (by omega), rfl⟩
  · have hn' : 1048576 < n := by omega
    go_enter Try.func11, Try.ntmps11
    go_wp2
    go_ret
    exact ⟨yes_no, rfl⟩

/-- rowsBytesSqlB1's answer. -/
def CountEnd (n : Nat) (L : Nat → Nat) (e : Ending) : Prop := ∃ x : Int, e = .returned (.int .i64 x) ∧ 0 ≤ x ∧ x ≤ 30000000 ∧ (x ≤ 1048576 → 24 * n ≤ 1048576 ∧ ∀ i, i < n → 32 * L i ≤ 1048576)
theorem count_much {n : Nat} {L : Nat → Nat} : CountEnd n L (.returned (.int .i64 1048577)) := ⟨_, rfl, by omega, by omega, fun h => by omega⟩

set_option maxHeartbeats 1600000 in
theorem count_any (a : Option Addr) (n c : Nat) (A : Nat → Option Addr) (L C : Nat → Nat) (K I : Nat → Nat → Int) (S : Nat → Nat → ByteArray) (w : World) (hR : RowsAt w a n A L C K I S) (hF : Fits n A L C S) (hn : n ≤ 1048576) :
    Calls Try.prog 12 #[.slice a n c] w fun e w' => CountEnd n L e ∧ w' = w := by
  go_enter Try.func12, Try.ntmps12
  go_wp2
  go_loop [3, 4, 5, 6] (fun x i _ _ => ∃ (k : Nat) (y : Int), k ≤ n ∧ i = .int .i64 k ∧ x = .int .i64 y ∧ 24 * (n : Int) ≤ y ∧ y ≤ 25165824 ∧ ∀ i, i < k → 32 * L i ≤ 1048576) (fun _ i _ _ => n - (intOf i).toNat)
  case atStart => exact ⟨0, _, by omega, rfl, rfl, by omega, by omega, fun i h => by omega⟩
  case round =>
    obtain ⟨k, y, hk, rfl, rfl, hy0, hy1, hall⟩ := hrel
    have HA : Hid (∀ i, i < k → 32 * L i ≤ 1048576) := hall
    clear hall
    by_cases hlt : k < n
    · obtain ⟨b, o, rfl, hr⟩ := hR (by omega)
      have hck := (hr k hlt).1
      have hrow := (hr k hlt).2
      have hle := hF.le k hlt
      have hst := fun j hj => hF.str k j hlt hj
      unfold maxLen at hle
      by_cases h1 : 1048576 < L k
      · go_wp2
        go_ret
        exact ⟨count_much, rfl⟩
      · by_cases h2 : 1048576 < y + 32 * L k
        · go_wp2
          go_ret
          exact ⟨count_much, rfl⟩
        · go_wp2
          go_loop [3, 5, 6] (fun x i _ => ∃ (m : Nat) (y : Int), m ≤ L k ∧ i = .int .i64 m ∧ x = .int .i64 y ∧ 24 * (n : Int) ≤ y ∧ y ≤ 1048576) (fun _ i _ => L k - (intOf i).toNat)
          case atStart => exact ⟨0, _, by omega, rfl, rfl, by omega, by omega⟩
          case round =>
            obtain ⟨m, y', hm, rfl, rfl, hy0', hy1'⟩ := hrel
            by_cases hlm : m < L k
            · obtain ⟨b2, o2, hA, hv⟩ := hrow (by omega)
              rw [hA] at hck
              have hcs := (hv m hlm).2.2
              have hss := hst m hlm
              unfold maxLen at hss
              by_cases h3 : 1048576 < (S k m).size
              · go_wp2
                go_ret
                exact ⟨count_much, rfl⟩
              · by_cases h4 : 1048576 < y' + (S k m).size
                · go_wp2
                  go_ret
                  exact ⟨count_much, rfl⟩
                · go_wp2
                  go_round
                  case rel => exact ⟨m + 1, _, by omega, by go_num, rfl, by omega, by omega⟩
                  case measure => simp [intOf]; omega
            · go_wp2
              go_round
              case rel => exact ⟨k + 1, _, by omega, by go_num, rfl, by omega, by omega, fun i hi => by by_cases e : i = k; subst e; omega; exact HA.out i (by omega)⟩
              case measure => simp [intOf]; omega
    · go_wp2
      go_ret
      exact ⟨⟨_, rfl, by omega, by omega, fun h => ⟨by omega, fun i hi => HA.out i (by omega)⟩⟩, rfl⟩
end Go.Proofs.Qxb6602738a
