/-
  THE FUNCTIONS THAT ONLY READ (seat b6602738a): zzBytes_.., rowsBytesSqlB1, rowsHaveWidthSqlB1, positionsWithinSqlB1, isIdentitySqlB1.
-/
import Derived.Test.Qxb6602738aView
namespace Go.Proofs.Qxb6602738a
open Go.RowKit Go.Deep

/-- A slice of ints. -/
def IntsAt (w : World) (a : Option Addr) (p : Nat) (ps : Nat → Int) : Prop := 0 < p → ∃ b o, a = some ⟨b, o, none⟩ ∧ ∀ k, k < p → w.cell? ⟨b, o + k, none⟩ = some (.int .i64 (ps k))

/-- A call's ending: a bool; if it is true, q holds. -/
def YesIf (q : Prop) (e : Ending) : Prop := ∃ r : Bool, e = .returned (.bool r) ∧ (r = true → q)
theorem yes_no {q : Prop} : YesIf q (.returned (.bool false)) := ⟨false, rfl, fun h => by cases h⟩
theorem yes_yes {q : Prop} (h : q) : YesIf q (.returned (.bool true)) := ⟨true, rfl, fun _ => h⟩

set_option maxHeartbeats 800000 in
theorem width_any (a : Option Addr) (n c : Nat) (A : Nat → Option Addr) (L C : Nat → Nat) (K I : Nat → Nat → Int) (S : Nat → Nat → ByteArray) (width : Int) (w : World) (hR : RowsAt w a n A L C K I S) (hn : n ≤ 1048576) :
    Calls Try.prog 13 #[.slice a n c, .int .i64 width] w fun e w' => YesIf (∀ i, i < n → (L i : Int) = width) e ∧ w' = w := by
  go_enter Try.func13, Try.ntmps13
  go_wp2
  go_loop [5] (fun j => ∃ k : Nat, k ≤ n ∧ j = .int .i64 k ∧ ∀ i, i < k → (L i : Int) = width) (fun j => n - (intOf j).toNat)
  case atStart => exact ⟨0, by omega, rfl, fun i h => by omega⟩
  case round =>
    obtain ⟨k, hk, rfl, hL⟩ := hrel
    have HL : Hid (∀ i, i < k → (L i : Int) = width) := hL
    clear hL
    by_cases hlt : k < n
    · obtain ⟨b, o, rfl, hr⟩ := hR (by omega)
      have hck := (hr k hlt).1
      by_cases he : (L k : Int) = width
      · have hne : ((L k : Int) != width) = false := by simpa using he
        have HE : Hid ((L k : Int) = width) := he
        clear he
        go_wp2
        go_round
        case rel => exact ⟨k + 1, by omega, by go_num, fun i hi => by by_cases e : i = k; subst e; exact HE.out; exact HL.out i (by omega)⟩
        case measure => simp [intOf]; omega
      · have hne : ((L k : Int) != width) = true := by simpa using he
        go_wp2
        go_ret
        exact ⟨yes_no, rfl⟩
    · go_wp2
      go_ret
      exact ⟨yes_yes (fun i hi => HL.out i (by omega)), rfl⟩

set_option maxHeartbeats 800000 in
theorem within_any (a : Option Addr) (p c : Nat) (ps : Nat → Int) (width : Int) (w : World) (hP : IntsAt w a p ps) (hp : p ≤ 1048576) :
    Calls Try.prog 14 #[.slice a p c, .int .i64 width] w fun e w' => YesIf (∀ k, k < p → 0 ≤ ps k ∧ ps k < width) e ∧ w' = w := by
  go_enter Try.func14, Try.ntmps14
  go_wp2
  go_loop [5] (fun j => ∃ k : Nat, k ≤ p ∧ j = .int .i64 k ∧ ∀ i, i < k → 0 ≤ ps i ∧ ps i < width) (fun j => p - (intOf j).toNat)
  case atStart => exact ⟨0, by omega, rfl, fun i h => by omega⟩
  case round =>
    obtain ⟨k, hk, rfl, hL⟩ := hrel
    have HL : Hid (∀ i, i < k → 0 ≤ ps i ∧ ps i < width) := hL
    clear hL
    by_cases hlt : k < p
    · obtain ⟨b, o, rfl, hr⟩ := hP (by omega)
      have hck := hr k hlt
      by_cases h1 : ps k < 0
      · go_wp2
        go_ret
        exact ⟨yes_no, rfl⟩
      · by_cases h2 : width ≤ ps k
        · go_wp2
          go_ret
          exact ⟨yes_no, rfl⟩
        · go_wp2
          go_round
          case rel => exact ⟨k + 1, by omega, by go_num, fun i hi => by by_cases e : i = k; subst e; exact ⟨by omega, by omega⟩; exact HL.out i (by omega)⟩
          case measure => simp [intOf]; omega
    · go_wp2
      go_ret
      exact ⟨yes_yes (fun i hi => HL.out i (by omega)), rfl⟩

/-- The positions are 0, 1, .. width - 1. -/
def Ident (p : Nat) (ps : Nat → Int) (width : Int) : Prop := (p : Int) = width ∧ ∀ k, k < p → ps k = k
def IdEnd (p : Nat) (ps : Nat → Int) (width : Int) (e : Ending) : Prop := ∃ r : Bool, e = .returned (.bool r) ∧ (r = true ↔ Ident p ps width)

set_option maxHeartbeats 800000 in
theorem ident_any (a : Option Addr) (p c : Nat) (ps : Nat → Int) (width : Int) (w : World) (hP : IntsAt w a p ps) (hp : p ≤ 1048576) :
    Calls Try.prog 18 #[.slice a p c, .int .i64 width] w fun e w' => IdEnd p ps width e ∧ w' = w := by
  by_cases hw : (p : Int) = width
  · have hne : ((p : Int) != width) = false := by simpa using hw
    have HW : Hid ((p : Int) = width) := hw
    clear hw
    go_enter Try.func18, Try.ntmps18
    go_wp2
    go_loop [5] (fun j => ∃ k : Nat, k ≤ p ∧ j = .int .i64 k ∧ ∀ i : Nat, i < k → ps i = i) (fun j => p - (intOf j).toNat)
    case atStart => exact ⟨0, by omega, rfl, fun i h => by omega⟩
    case round =>
      obtain ⟨k, hk, rfl, hL⟩ := hrel
      have HL : Hid (∀ i : Nat, i < k → ps i = i) := hL
      clear hL
      by_cases hlt : k < p
      · obtain ⟨b, o, rfl, hr⟩ := hP (by omega)
        have hck := hr k hlt
        by_cases he : ps k = k
        · have he' : (ps k != (k : Int)) = false := by simpa using he
          have HE : Hid (ps k = k) := he
          clear he
          go_wp2
          go_round
          case rel => exact ⟨k + 1, by omega, by go_num, fun i hi => by by_cases e : i = k; subst e; exact HE.out; exact HL.out i (by omega)⟩
          case measure => simp [intOf]; omega
        · have he' : (ps k != (k : Int)) = true := by simpa using he
          go_wp2
          go_ret
          exact ⟨⟨false, rfl, fun h => (by cases h), fun h => absurd (h.2 k hlt) he⟩, rfl⟩
      · go_wp2
        go_ret
        exact ⟨⟨true, rfl, fun _ => ⟨HW.out, fun i hi => HL.out i (by omega)⟩, fun _ => rfl⟩, rfl⟩
  · have hne : ((p : Int) != width) = true := by simpa using hw
    go_enter Try.func18, Try.ntmps18
    go_wp2
    go_ret
    exact ⟨⟨false, rfl, fun h => (by cases h), fun h => absurd h.1 hw⟩, rfl⟩
end Go.Proofs.Qxb6602738a
