/-
  THE LAWS ON readQuoted (seat b6602738a): ZZreadQuoted, the counts of bytes, FnReadQuotedMatchesAutomaton, FnReadQuotedRoundTrip.
-/
import Derived.Test.Qxb6602738aAutomaton
import Derived.Test.Qxb6602738aEncode
import Derived.Laws.Concat
import Derived.RowKit3
set_option linter.unusedVariables false
namespace Go.Proofs.Qxb6602738a
open Go.RowKit Quoted

theorem ans_form (s : ByteArray) (i : Nat) (esc : Bool) : ∃ (v : ByteArray) (r : Int) (ok : Bool), ans s i esc = .tuple #[.string v, .int .i64 r, .bool ok] := by
  unfold ans
  split
  · exact ⟨_, _, _, rfl⟩
  · exact ⟨_, _, _, rfl⟩

theorem read_is {s : ByteArray} {i : Nat} {esc : Bool} {v : ByteArray} {r : Int} {ok : Bool} (hans : ans s i esc = .tuple #[.string v, .int .i64 r, .bool ok]) (w : World) (hi : i < s.size) (hn : s.size ≤ 1048576) :
    Calls Try.prog 36 #[.string s, .int .i64 i, .bool esc] w fun e w' => e = .returned (.tuple #[.string v, .int .i64 r, .bool ok]) ∧ Below w.heap.size w w' := by
  refine (readQuoted_any s i esc w hi hn).mono ?_
  rintro e w' ⟨rfl, h⟩
  exact ⟨by rw [hans], h⟩

theorem auto_is {s : ByteArray} {i : Nat} {esc : Bool} {v : ByteArray} {r : Int} {ok : Bool} (hans : ans s i esc = .tuple #[.string v, .int .i64 r, .bool ok]) (w : World) (hi : i < s.size) (hn : s.size ≤ 1048576) :
    Calls Try.prog 29 #[.string s, .int .i64 i, .bool esc] w fun e w' => e = .returned (.tuple #[.string v, .int .i64 r, .bool ok]) ∧ Below w.heap.size w w' := by
  refine (automaton_any s i esc w hi hn).mono ?_
  rintro e w' ⟨rfl, h⟩
  exact ⟨by rw [hans], h⟩

set_option maxHeartbeats 400000 in
theorem zz_is {s : ByteArray} {i : Nat} {esc : Bool} {v : ByteArray} {r : Int} {ok : Bool} (hans : Hid (ans s i esc = .tuple #[.string v, .int .i64 r, .bool ok])) (w : World) (hi : i < s.size) (hn : s.size ≤ 1048576) :
    Calls Try.prog 28 #[.string s, .int .i64 i, .bool esc] w fun e w' => e = .returned (.tuple #[.string v, .int .i64 r, .bool ok]) ∧ Below w.heap.size w w' := by
  go_enter Try.func28, Try.ntmps28
  go_wp2_with (go_at_call 36; refine (read_is hans.out w hi hn).mono ?_; rintro e w' ⟨rfl, hb⟩)
  go_ret3
  exact ⟨rfl, hb⟩

set_option maxHeartbeats 400000 in
theorem count27_yes (s : ByteArray) (x : Int) (esc : Bool) (w : World) (hn : s.size ≤ 1048576) : Calls Try.prog 27 #[.string s, .int .i64 x, .bool esc] w fun e w' => e = .returned (.bool true) ∧ w' = w := by
  go_enter Try.func27, Try.ntmps27
  go_wp2
  go_ret
  exact ⟨rfl, rfl⟩
set_option maxHeartbeats 400000 in
theorem count27_no (s : ByteArray) (x : Int) (esc : Bool) (w : World) (hn : 1048576 < s.size) : Calls Try.prog 27 #[.string s, .int .i64 x, .bool esc] w fun e w' => e = .returned (.bool false) ∧ w' = w := by
  go_enter Try.func27, Try.ntmps27
  go_wp2
  go_ret
  exact ⟨rfl, rfl⟩
set_option maxHeartbeats 400000 in
theorem count32_yes (s : ByteArray) (x : Int) (esc : Bool) (w : World) (hn : s.size ≤ 1048576) : Calls Try.prog 32 #[.string s, .int .i64 x, .bool esc] w fun e w' => e = .returned (.bool true) ∧ w' = w := by
  go_enter Try.func32, Try.ntmps32
  go_wp2
  go_ret
  exact ⟨rfl, rfl⟩
set_option maxHeartbeats 400000 in
theorem count32_no (s : ByteArray) (x : Int) (esc : Bool) (w : World) (hn : 1048576 < s.size) : Calls Try.prog 32 #[.string s, .int .i64 x, .bool esc] w fun e w' => e = .returned (.bool false) ∧ w' = w := by
  go_enter Try.func32, Try.ntmps32
  go_wp2
  go_ret
  exact ⟨rfl, rfl⟩
set_option maxHeartbeats 400000 in
theorem count30_yes (s : ByteArray) (x : Int) (b r : ByteArray) (esc : Bool) (w : World) (hn : s.size + b.size + r.size ≤ 1048576) : Calls Try.prog 30 #[.string s, .int .u8 x, .string b, .string r, .bool esc] w fun e w' => e = .returned (.bool true) ∧ w' = w := by
  go_enter Try.func30, Try.ntmps30
  go_wp2
  go_ret
  exact ⟨rfl, rfl⟩
set_option maxHeartbeats 1600000 in
theorem count30_no (s : ByteArray) (x : Int) (b r : ByteArray) (esc : Bool) (w : World) (hn : 1048576 < s.size + b.size + r.size) : Calls Try.prog 30 #[.string s, .int .u8 x, .string b, .string r, .bool esc] w fun e w' => e = .returned (.bool false) ∧ w' = w := by
  by_cases h1 : 1048576 < s.size
  · go_enter Try.func30, Try.ntmps30
    go_wp2
    go_ret
    exact ⟨rfl, rfl⟩
  · by_cases h2 : 1048576 < b.size
    · go_enter Try.func30, Try.ntmps30
      go_wp2
      go_ret
      exact ⟨rfl, rfl⟩
    · by_cases h3 : 1048576 < s.size + b.size
      · go_enter Try.func30, Try.ntmps30
        go_wp2
        go_ret
        exact ⟨rfl, rfl⟩
      · by_cases h4 : 1048576 < r.size
        · go_enter Try.func30, Try.ntmps30
          go_wp2
          go_ret
          exact ⟨rfl, rfl⟩
        · go_enter Try.func30, Try.ntmps30
          go_wp2
          go_ret
          exact ⟨rfl, rfl⟩

set_option maxHeartbeats 1600000 in
theorem automaton_law (s : ByteArray) (a : Int) (esc : Bool) (w : World) (hs : s.size ≤ maxLen) :
    Calls Try.prog 8 #[.string s, .int .i64 a, .bool esc] w fun e w' => e = .returned (.bool true) ∧ Below w.heap.size w w' := by
  unfold maxLen at hs
  by_cases hn : s.size ≤ 1048576
  · by_cases h0 : a < 0
    · go_enter Try.func8, Try.ntmps8
      go_wp2_with (go_at_call 27; refine (count27_yes s a esc _ hn).mono ?_; rintro e w' ⟨rfl, rfl⟩)
      go_ret
      exact ⟨rfl, Below.refl _ _⟩
    · by_cases h1 : (s.size : Int) ≤ a
      · go_enter Try.func8, Try.ntmps8
        go_wp2_with (go_at_call 27; refine (count27_yes s a esc _ hn).mono ?_; rintro e w' ⟨rfl, rfl⟩)
        go_ret
        exact ⟨rfl, Below.refl _ _⟩
      · obtain ⟨i, rfl⟩ : ∃ i : Nat, a = i := ⟨a.toNat, by omega⟩
        have hi : i < s.size := by omega
        obtain ⟨v, r, ok, hans0⟩ := ans_form s i esc
        have hans : Hid (ans s i esc = .tuple #[.string v, .int .i64 r, .bool ok]) := hans0
        clear hans0
        go_enter Try.func8, Try.ntmps8
        go_wp2_with (first
          | (go_at_call 27; refine (count27_yes s i esc _ hn).mono ?_; rintro e w' ⟨rfl, rfl⟩)
          | (go_at_call 28; refine (zz_is hans _ hi hn).mono ?_; rintro e w1 ⟨rfl, hb1⟩)
          | (go_at_call 29; refine (auto_is hans.out _ hi hn).mono ?_; rintro e w2 ⟨rfl, hb2⟩))
        go_ret
        refine ⟨?_, hb1.trans (hb2.mono hb1.size)⟩
        simp
  · have hn' : 1048576 < s.size := by omega
    go_enter Try.func8, Try.ntmps8
    go_wp2_with (go_at_call 27; refine (count27_no s a esc _ hn').mono ?_; rintro e w' ⟨rfl, rfl⟩)
    go_ret
    exact ⟨rfl, Below.refl _ _⟩
end Go.Proofs.Qxb6602738a
