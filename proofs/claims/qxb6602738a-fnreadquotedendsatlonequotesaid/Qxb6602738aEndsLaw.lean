/-
  THE LAW FnReadQuotedEndsAtLoneQuote (seat b6602738a).
-/
import Derived.Test.Qxb6602738aRoundLaw
import Derived.Lib.Strings
import Derived.Deep.QuietTactic
import Derived.BigQuiet
import Derived.Deep.RegionHeld3
import Derived.WalkSmall
set_option linter.unusedVariables false
namespace Go.Proofs.Qxb6602738a
open Go.RowKit Quoted

/-- What a reading that found its end says, in the law's words. -/
structure Found (s : ByteArray) (i : Nat) (esc : Bool) (val : ByteArray) (E : Nat) : Prop where
  ans : ans s i esc = .tuple #[.string val, .int .i64 E, .bool true]
  lo : i + 2 ≤ E
  hi : E ≤ s.size
  at1 : by_ s (E - 1) = by_ s i
  at2 : E < s.size → by_ s E ≠ by_ s i
  len : val.size + i + 2 ≤ E
  enc : esc = false → byt s i :: en (byt s i) false val.data.toList ++ [byt s i] = (s.extract i E).data.toList

theorem byt_tail {s : ByteArray} {i m : Nat} {x : UInt8} (h : (tail_ s i)[m]? = some x) : byt s (i + 1 + m) = x := by
  obtain ⟨hl, hx⟩ := List.getElem?_eq_some_iff.1 h
  rw [← hx, tail_at hl]

theorem found_of {s : ByteArray} {i m : Nat} {esc : Bool} {v : List UInt8} (hi : i < s.size) (h : rd (byt s i) esc (tail_ s i) = some (v, m)) : Found s i esc ⟨v.toArray⟩ (i + 1 + m) := by
  obtain ⟨a1, a2, a3, a4, a5, a6⟩ := ends (byt s i) esc _ (tail_ s i) (Nat.le_refl _) v m h
  have hl := tail_length s i
  constructor
  · unfold Qxb6602738a.ans; rw [h]
  · omega
  · omega
  · rw [show i + 1 + m - 1 = i + 1 + (m - 1) by omega]
    exact byt_eq.2 (byt_tail a3)
  · intro hE hb
    apply a4
    have hm : m < (tail_ s i).length := by omega
    rw [List.getElem?_eq_getElem hm, tail_at hm, byt_eq.1 hb]
  · have : (ByteArray.mk v.toArray).size = v.length := by rw [size_list]
    rw [this]; omega
  · intro he
    rw [Lib.extract_data]
    have hd : s.data.toList.drop i = byt s i :: tail_ s i := by
      have h1 : i < s.data.toList.length := by rw [← size_list]; exact hi
      rw [List.drop_eq_getElem_cons h1]
      unfold byt tail_
      rw [List.getD_eq_getElem?_getD, List.getElem?_eq_getElem h1]
      rfl
    rw [hd, show i + 1 + m - i = m + 1 by omega, List.take_succ_cons, ← a6 he]
    simp

/-- The encoding from a world that the call has come to. -/
theorem encode_from {c : Int} {q : UInt8} (hcq : Hid (c = (q.toNat : Int))) {s enc : ByteArray} {esc : Bool} (henc : Hid (enc.data.toList = q :: en q esc s.data.toList ++ [q])) {w0 w : World} (hb : Below w0.heap.size w0 w) (hn : s.size ≤ 1048576) :
    Calls Try.prog 31 #[.int .u8 c, .string s, .bool esc] w fun e w' => e = .returned (.string enc) ∧ Below w0.heap.size w0 w' := by
  refine (encode_is hcq henc w hn).mono ?_
  rintro e w' ⟨rfl, h⟩
  exact ⟨rfl, hb.trans (h.mono hb.size)⟩

set_option maxHeartbeats 1600000 in
set_option maxRecDepth 100000 in
theorem ends_none (s : ByteArray) (i : Nat) (esc : Bool) (w : World) (hi : i < s.size) (hn : s.size ≤ 1048576) (hans : Hid (ans s i esc = .tuple #[.string ⟨#[]⟩, .int .i64 s.size, .bool false])) :
    Calls Try.prog 10 #[.string s, .int .i64 i, .bool esc] w fun e w' => e = .returned (.bool true) ∧ Below w.heap.size w w' := by
  go_enter Try.func10, Try.ntmps10
  go_wp2_with (first
    | (go_at_call 32; refine (count32_yes s i esc _ hn).mono ?_; rintro e w' ⟨rfl, h2⟩; have h3 := h2.symm; clear h2; subst h3)
    | (go_at_call 28; refine (zz_is hans _ hi hn).mono ?_; rintro e w1 ⟨rfl, hb1⟩))
  go_ret
  refine ⟨?_, hb1⟩
  simp

set_option maxHeartbeats 3200000 in
set_option maxRecDepth 100000 in
theorem ends_some (s : ByteArray) (i : Nat) (esc : Bool) (w : World) (hi : i < s.size) (hn : s.size ≤ 1048576) (val : ByteArray) (E : Nat) (hF : Found s i esc val E) :
    Calls Try.prog 10 #[.string s, .int .i64 i, .bool esc] w fun e w' => e = .returned (.bool true) ∧ Below w.heap.size w w' := by
  have hans : Hid (ans s i esc = .tuple #[.string val, .int .i64 E, .bool true]) := hF.ans
  have hlo := hF.lo
  have hhi := hF.hi
  have hlen := hF.len
  have hi1 : ∀ w, (Instr.index 9 (.string s) (.int .i64 ((E : Int) - 1))).run Try.prog w = .ok (.int .u8 (by_ s (E - 1))) w := fun w => by
    have := idx (s := s) (k := E - 1) (by omega) w
    rwa [show (((E - 1 : Nat)) : Int) = (E : Int) - 1 by omega] at this
  have hii := fun w => idx hi w
  have b1 : (0 : Int) ≤ (i : Int) := by omega
  have b2 : (i : Int) ≤ (E : Int) := by omega
  have b3 : (E : Int) ≤ (s.size : Int) := by omega
  have hsl : ∀ w, (Instr.slice 9 (.string s) (some (.int .i64 i)) (some (.int .i64 E)) none).run Try.prog w = .ok (.string (s.extract i E)) w := fun w => by
    have := run_slice_string (P := Try.prog) w 9 s .i64 .i64 (i : Int) (E : Int) Try.underlying9 b1 b2 b3
    simpa using this
  have h1b : (by_ s (E - 1) != by_ s i) = false := by simp [hF.at1]
  obtain ⟨enc, henc⟩ : ∃ enc : ByteArray, Hid (enc.data.toList = byt s i :: en (byt s i) false val.data.toList ++ [byt s i]) := ⟨⟨(byt s i :: en (byt s i) false val.data.toList ++ [byt s i]).toArray⟩, by show _ = _; simp⟩
  have hcq : Hid (by_ s i = ((byt s i).toNat : Int)) := by_byt s i
  have hvn : val.size ≤ 1048576 := by omega
  by_cases hE : E < s.size
  · have hiE := fun w => idx hE w
    have h2b : (by_ s E == by_ s i) = false := by simpa using hF.at2 hE
    cases esc with
    | true =>
      clear hF
      go_enter Try.func10, Try.ntmps10
      go_wp2_with (first
        | (go_at_call 32; refine (count32_yes s i true _ hn).mono ?_; rintro e w' ⟨rfl, h2⟩; have h3 := h2.symm; clear h2; subst h3)
        | (go_at_call 28; refine (zz_is hans _ hi hn).mono ?_; rintro e w1 ⟨rfl, hb1⟩))
      go_quiet (fail)
      go_wp2
      go_ret
      exact ⟨rfl, below_drewN hb1 _⟩
    | false =>
      have hcmp : (enc.toList == (s.extract i E).toList) = true := by
        rw [ByteArray.toList_eq, ByteArray.toList_eq, henc.out, hF.enc rfl]; simp
      clear hF
      go_enter Try.func10, Try.ntmps10
      go_wp2_with (first
        | (go_at_call 32; refine (count32_yes s i false _ hn).mono ?_; rintro e w' ⟨rfl, h2⟩; have h3 := h2.symm; clear h2; subst h3)
        | (go_at_call 28; refine (zz_is hans _ hi hn).mono ?_; rintro e w1 ⟨rfl, hb1⟩))
      go_region_held3 (fun wx => Below w.heap.size w wx) (first | assumption | exact Below.drew (by assumption)) (first | (go_at_call 31; refine (encode_from hcq henc (by assumption) hvn).mono ?_; rintro e w2 ⟨rfl, hb2⟩))
      go_wp2
      go_ret
      exact ⟨rfl, by assumption⟩
  · cases esc with
    | true =>
      clear hF
      go_enter Try.func10, Try.ntmps10
      go_wp2_with (first
        | (go_at_call 32; refine (count32_yes s i true _ hn).mono ?_; rintro e w' ⟨rfl, h2⟩; have h3 := h2.symm; clear h2; subst h3)
        | (go_at_call 28; refine (zz_is hans _ hi hn).mono ?_; rintro e w1 ⟨rfl, hb1⟩))
      go_quiet (fail)
      go_wp2
      go_ret
      exact ⟨rfl, below_drewN hb1 _⟩
    | false =>
      have hcmp : (enc.toList == (s.extract i E).toList) = true := by
        rw [ByteArray.toList_eq, ByteArray.toList_eq, henc.out, hF.enc rfl]; simp
      clear hF
      go_enter Try.func10, Try.ntmps10
      go_wp2_with (first
        | (go_at_call 32; refine (count32_yes s i false _ hn).mono ?_; rintro e w' ⟨rfl, h2⟩; have h3 := h2.symm; clear h2; subst h3)
        | (go_at_call 28; refine (zz_is hans _ hi hn).mono ?_; rintro e w1 ⟨rfl, hb1⟩))
      go_region_held3 (fun wx => Below w.heap.size w wx) (first | assumption | exact Below.drew (by assumption)) (first | (go_at_call 31; refine (encode_from hcq henc (by assumption) hvn).mono ?_; rintro e w2 ⟨rfl, hb2⟩))
      go_wp2
      go_ret
      exact ⟨rfl, by assumption⟩

set_option maxHeartbeats 1600000 in
theorem ends_law (s : ByteArray) (a : Int) (esc : Bool) (w : World) (hs : s.size ≤ maxLen) :
    Calls Try.prog 10 #[.string s, .int .i64 a, .bool esc] w fun e w' => e = .returned (.bool true) ∧ Below w.heap.size w w' := by
  unfold maxLen at hs
  by_cases hn : s.size ≤ 1048576
  · by_cases h0 : a < 0
    · go_enter Try.func10, Try.ntmps10
      go_wp2_with (go_at_call 32; refine (count32_yes s a esc _ hn).mono ?_; rintro e w' ⟨rfl, rfl⟩)
      go_ret
      exact ⟨rfl, Below.refl _ _⟩
    · by_cases h1 : (s.size : Int) ≤ a
      · go_enter Try.func10, Try.ntmps10
        go_wp2_with (go_at_call 32; refine (count32_yes s a esc _ hn).mono ?_; rintro e w' ⟨rfl, rfl⟩)
        go_ret
        exact ⟨rfl, Below.refl _ _⟩
      · obtain ⟨i, rfl⟩ : ∃ i : Nat, a = i := ⟨a.toNat, by omega⟩
        have hi : i < s.size := by omega
        cases hrd : rd (byt s i) esc (tail_ s i) with
        | none => exact ends_none s i esc w hi hn (by show _ = _; unfold ans; rw [hrd])
        | some r =>
          obtain ⟨v, m⟩ := r
          exact ends_some s i esc w hi hn _ _ (found_of hi hrd)
  · have hn' : 1048576 < s.size := by omega
    go_enter Try.func10, Try.ntmps10
    go_wp2_with (go_at_call 32; refine (count32_no s a esc _ hn').mono ?_; rintro e w' ⟨rfl, rfl⟩)
    go_ret
    exact ⟨rfl, Below.refl _ _⟩
end Go.Proofs.Qxb6602738a
