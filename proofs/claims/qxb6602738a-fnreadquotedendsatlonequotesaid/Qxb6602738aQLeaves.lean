/-
  THE LEAVES OF THE QUOTED READING (seat b6602738a): a byte of a string, unescape, controlForSqlB1.
-/
import Derived.Test.Qxb6602738aBuilder
import Derived.Test.Qxb6602738aPlainQuoted
import Derived.Test.Qxb6602738aView
set_option linter.unusedVariables false
namespace Go.Proofs.Qxb6602738a
open Go.RowKit Quoted

/-- A byte as the walk has it. -/
def by_ (s : ByteArray) (k : Nat) : Int := ((s.data.toList.getD k 0).toNat : Int)

theorem by_at {s : ByteArray} {k : Nat} (h : k < s.size) : by_ s k = (s[k].toNat : Int) := by
  unfold by_
  rw [List.getD_eq_getElem?_getD, List.getElem?_eq_getElem (by simpa using h)]
  simp
  rfl

theorem idx {s : ByteArray} {k : Nat} (h : k < s.size) (w : World) : (Instr.index 9 (.string s) (.int .i64 (k : Int))).run Try.prog w = .ok (.int .u8 (by_ s k)) w := by
  rw [run_index_string w 9 s .i64 k Try.underlying9, dif_pos (by omega), by_at h]
  simp

def unescI (c : Int) : Int :=
  if c = 48 then 0 else if c = 98 then 8 else if c = 110 then 10 else if c = 114 then 13 else if c = 116 then 9 else if c = 90 then 26 else c

theorem unescI_of (c : UInt8) : unescI (c.toNat : Int) = ((unesc c).toNat : Int) := by
  have h : ∀ d : UInt8, ((c.toNat : Int) = (d.toNat : Int)) ↔ c = d := fun d => by
    constructor
    · intro h; exact UInt8.toNat_inj.1 (by omega)
    · intro h; rw [h]
  have h48 := h 48; have h98 := h 98; have h110 := h 110; have h114 := h 114; have h116 := h 116; have h90 := h 90
  simp at h48 h98 h110 h114 h116 h90
  unfold unescI unesc
  simp only [h48, h98, h110, h114, h116, h90]
  repeat' split
  all_goals simp_all

set_option maxHeartbeats 400000 in
theorem unescape_any (c : Int) (w : World) : Calls Try.prog 43 #[.int .u8 c] w fun e w' => e = .returned (.int .u8 (unescI c)) ∧ w' = w := by
  unfold unescI
  repeat' split
  all_goals
    go_enter Try.func43, Try.ntmps43
    go_wp2
    go_ret
    exact ⟨rfl, rfl⟩

set_option maxHeartbeats 400000 in
theorem control_any (c : Int) (w : World) : Calls Try.prog 37 #[.int .u8 c] w fun e w' => e = .returned (.int .u8 (unescI c)) ∧ w' = w := by
  unfold unescI
  repeat' split
  all_goals
    go_enter Try.func37, Try.ntmps37
    go_wp2
    go_ret
    exact ⟨rfl, rfl⟩
end Go.Proofs.Qxb6602738a
