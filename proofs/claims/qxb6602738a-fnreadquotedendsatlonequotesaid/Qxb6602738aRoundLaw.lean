/-
  THE LAW FnReadQuotedRoundTrip (seat b6602738a).
-/
import Derived.Test.Qxb6602738aQLaws
import Derived.OpenShut
set_option linter.unusedVariables false
namespace Go.Proofs.Qxb6602738a
open Go.RowKit Quoted

theorem bytes_ext {a b : ByteArray} (h : a.data.toList = b.data.toList) : a = b := by
  cases a; cases b
  simp only [ByteArray.mk.injEq]
  exact Array.toList_inj.1 h

/-- The encoding under a name. -/
theorem encode_is {c : Int} {q : UInt8} (hcq : Hid (c = (q.toNat : Int))) {s enc : ByteArray} {esc : Bool} (henc : Hid (enc.data.toList = q :: en q esc s.data.toList ++ [q])) (w : World) (hn : s.size ≤ 1048576) :
    Calls Try.prog 31 #[.int .u8 c, .string s, .bool esc] w fun e w' => e = .returned (.string enc) ∧ Below w.heap.size w w' := by
  refine (encode_any c q hcq s esc w hn).mono ?_
  rintro e w' ⟨rfl, h⟩
  refine ⟨congrArg (fun x => Ending.returned (.string x)) (bytes_ext ?_), h⟩
  rw [henc.out]

theorem size_list (s : ByteArray) : s.size = s.data.toList.length := by rw [Array.length_toList]; rfl

/-- The reading of what was encoded. -/
theorem round_ans {pre enc body rest src : ByteArray} {q : UInt8} {esc : Bool} (henc : enc.data.toList = q :: en q esc body.data.toList ++ [q]) (hsrc : src.data.toList = pre.data.toList ++ enc.data.toList ++ rest.data.toList)
    (hr : ∀ c t, rest.data.toList = c :: t → c ≠ q) : ans src pre.size esc = .tuple #[.string body, .int .i64 ((pre.size : Int) + (enc.size : Int)), .bool true] := by
  have hL : src.data.toList = pre.data.toList ++ q :: (en q esc body.data.toList ++ q :: rest.data.toList) := by rw [hsrc, henc]; simp
  have hb : byt src pre.size = q := by
    unfold byt
    rw [hL, size_list pre, List.getD_eq_getElem?_getD, List.getElem?_append_right (Nat.le_refl _), Nat.sub_self]
    rfl
  have ht : tail_ src pre.size = en q esc body.data.toList ++ q :: rest.data.toList := by
    unfold tail_
    rw [hL, size_list pre, ← List.drop_drop, List.drop_left]
    rfl
  have hz : enc.size = (en q esc body.data.toList).length + 2 := by
    rw [size_list, henc]; simp
  unfold ans
  rw [hb, ht, round_trip q esc rest.data.toList hr]
  simp only
  have e1 : (ByteArray.mk body.data.toList.toArray) = body := by cases body; simp
  rw [e1, hz]
  have : ((pre.size + 1 + ((en q esc body.data.toList).length + 1) : Nat) : Int) = (pre.size : Int) + (((en q esc body.data.toList).length + 2 : Nat) : Int) := by omega
  rw [this]

set_option maxHeartbeats 3200000 in
set_option maxRecDepth 100000 in
theorem round_main (pre : ByteArray) (c : Int) (q : UInt8) (hcq : Hid (c = (q.toNat : Int))) (body rest : ByteArray) (esc : Bool) (w : World)
    (h1 : pre.size ≤ 262144) (h2 : body.size ≤ 131072) (h3 : rest.size ≤ 262144) (hr : rest.size = 0 ∨ (0 < rest.size ∧ (by_ rest 0 == c) = false)) :
    Calls Try.prog 9 #[.string pre, .int .u8 c, .string body, .string rest, .bool esc] w fun e w' => e = .returned (.bool true) ∧ Below w.heap.size w w' := by
  obtain ⟨enc, henc⟩ : ∃ enc : ByteArray, Hid (enc.data.toList = q :: en q esc body.data.toList ++ [q]) := ⟨⟨(q :: en q esc body.data.toList ++ [q]).toArray⟩, by show _ = _; simp⟩
  obtain ⟨m1, hm1⟩ : ∃ m : ByteArray, Hid (m = pre ++ enc) := ⟨_, rfl⟩
  obtain ⟨src, hsrc⟩ : ∃ m : ByteArray, Hid (m = m1 ++ rest) := ⟨_, rfl⟩
  have hez : enc.size ≤ 262146 ∧ 1 ≤ enc.size := by
    rw [size_list, henc.out]
    have := en_length q esc body.data.toList
    rw [← size_list] at this
    simp; omega
  have hm1z : m1.size = pre.size + enc.size := by rw [hm1.out, ByteArray.size_append]
  have hsz : src.size = m1.size + rest.size := by rw [hsrc.out, ByteArray.size_append]
  have hn : src.size ≤ 1048576 := by omega
  have hi : pre.size < src.size := by omega
  have hm1l : m1.size ≤ 1000000 := by omega
  have hadd1 : ∀ w, (Op.stringOp .add pre enc).run Try.prog w = .ok (.string m1) w := fun w => by rw [hm1.out]; exact run_string_add_sum w pre enc (by omega)
  have hadd2 : ∀ w, (Op.stringOp .add m1 rest).run Try.prog w = .ok (.string src) w := fun w => by rw [hsrc.out]; exact run_string_add_sum w m1 rest (by omega)
  have hrest : ∀ x t, rest.data.toList = x :: t → x ≠ q := fun x t hx => by
    rcases hr with h | ⟨h, hb⟩
    · rw [size_list, hx] at h; simp at h
    · intro hq
      have : by_ rest 0 = c := by unfold by_; rw [hx, hcq.out, hq]; rfl
      rw [this] at hb; simp at hb
  have hans : Hid (ans src pre.size esc = .tuple #[.string body, .int .i64 ((pre.size : Int) + (enc.size : Int)), .bool true]) :=
    round_ans henc.out (by rw [hsrc.out, hm1.out, ByteArray.data_append, ByteArray.data_append]; simp) hrest
  clear hrest hm1z hsz
  have hcnt : pre.size + body.size + rest.size ≤ 1048576 := by omega
  rcases hr with h | ⟨h, hb⟩
  · go_enter Try.func9, Try.ntmps9
    go_wp2_with (first
      | (go_at_call 30; refine (count30_yes pre c body rest esc _ hcnt).mono ?_; rintro e w' ⟨rfl, rfl⟩)
      | (go_at_call 31; refine (encode_is hcq henc _ (by omega)).mono ?_; rintro e w1 ⟨rfl, hb1⟩)
      | (go_at_call 28; refine (zz_is hans _ hi hn).mono ?_; rintro e w2 ⟨rfl, hb2⟩))
    go_ret
    refine ⟨?_, hb1.trans (hb2.mono hb1.size)⟩
    simp
  · have hi0 : ∀ w, (Instr.index 9 (.string rest) (.int .i64 0)).run Try.prog w = .ok (.int .u8 (by_ rest 0)) w := fun w => idx (k := 0) h w
    go_enter Try.func9, Try.ntmps9
    go_wp2_with (first
      | (go_at_call 30; refine (count30_yes pre c body rest esc _ hcnt).mono ?_; rintro e w' ⟨rfl, rfl⟩)
      | (go_at_call 31; refine (encode_is hcq henc _ (by omega)).mono ?_; rintro e w1 ⟨rfl, hb1⟩)
      | (go_at_call 28; refine (zz_is hans _ hi hn).mono ?_; rintro e w2 ⟨rfl, hb2⟩))
    go_ret
    refine ⟨?_, hb1.trans (hb2.mono hb1.size)⟩
    simp

set_option maxHeartbeats 3200000 in
theorem round_law (pre : ByteArray) (c : Int) (body rest : ByteArray) (esc : Bool) (w : World) (hc : (Lit.int .u8 c).wf = true) (h1 : pre.size ≤ maxLen) (h2 : body.size ≤ maxLen) (h3 : rest.size ≤ maxLen) :
    Calls Try.prog 9 #[.string pre, .int .u8 c, .string body, .string rest, .bool esc] w fun e w' => e = .returned (.bool true) ∧ Below w.heap.size w w' := by
  unfold maxLen at h1 h2 h3
  by_cases hcnt : pre.size + body.size + rest.size ≤ 1048576
  · by_cases a1 : 262144 < pre.size
    · go_enter Try.func9, Try.ntmps9
      go_wp2_with (go_at_call 30; refine (count30_yes pre c body rest esc _ hcnt).mono ?_; rintro e w' ⟨rfl, rfl⟩)
      go_ret
      exact ⟨rfl, Below.refl _ _⟩
    · by_cases a2 : 131072 < body.size
      · go_enter Try.func9, Try.ntmps9
        go_wp2_with (go_at_call 30; refine (count30_yes pre c body rest esc _ hcnt).mono ?_; rintro e w' ⟨rfl, rfl⟩)
        go_ret
        exact ⟨rfl, Below.refl _ _⟩
      · by_cases a3 : 262144 < rest.size
        · go_enter Try.func9, Try.ntmps9
          go_wp2_with (go_at_call 30; refine (count30_yes pre c body rest esc _ hcnt).mono ?_; rintro e w' ⟨rfl, rfl⟩)
          go_ret
          exact ⟨rfl, Below.refl _ _⟩
        · by_cases a4 : 0 < rest.size ∧ (by_ rest 0 == c) = true
          · obtain ⟨h, hb⟩ := a4
            have hi0 : ∀ w, (Instr.index 9 (.string rest) (.int .i64 0)).run Try.prog w = .ok (.int .u8 (by_ rest 0)) w := fun w => idx (k := 0) h w
            go_enter Try.func9, Try.ntmps9
            go_wp2_with (go_at_call 30; refine (count30_yes pre c body rest esc _ hcnt).mono ?_; rintro e w' ⟨rfl, rfl⟩)
            go_ret
            exact ⟨rfl, Below.refl _ _⟩
          · have hb := bounds_u8 hc
            exact round_main pre c (UInt8.ofNat c.toNat) (by show _ = _; simp; omega) body rest esc w (by omega) (by omega) (by omega) (by
              rcases Nat.eq_zero_or_pos rest.size with h | h
              · exact .inl h
              · refine .inr ⟨h, ?_⟩
                cases hx : (by_ rest 0 == c) with
                | false => rfl
                | true => exact absurd ⟨h, hx⟩ a4)
  · have hcnt' : 1048576 < pre.size + body.size + rest.size := by omega
    go_enter Try.func9, Try.ntmps9
    go_wp2_with (go_at_call 30; refine (count30_no pre c body rest esc _ hcnt').mono ?_; rintro e w' ⟨rfl, rfl⟩)
    go_ret
    exact ⟨rfl, Below.refl _ _⟩
end Go.Proofs.Qxb6602738a
