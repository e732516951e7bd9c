/-
  THE WALK OF encodeQuotedSqlB1 (seat b6602738a).
-/
import Derived.Test.Qxb6602738aQAppend
set_option linter.unusedVariables false
namespace Go.Proofs.Qxb6602738a
open Go.RowKit Quoted

/-- The bytes laid down ahead of k. -/
def laid_ (q : UInt8) (esc : Bool) (s : ByteArray) (k : Nat) : List UInt8 := q :: en q esc (s.data.toList.take k)

theorem laid_length (q : UInt8) (esc : Bool) (s : ByteArray) (k : Nat) : (laid_ q esc s k).length ≤ 2 * k + 1 := by
  unfold laid_
  rw [List.length_cons]
  have := en_length q esc (s.data.toList.take k)
  rw [List.length_take] at this
  omega

theorem laid_step {q : UInt8} {esc : Bool} {s : ByteArray} {k : Nat} (h : k < s.size) {ys : List UInt8} (hy : e1 q esc (byt s k) = ys) : laid_ q esc s k ++ ys = laid_ q esc s (k + 1) := by
  have h1 : k < s.data.toList.length := by rw [Array.length_toList]; exact h
  unfold laid_
  rw [List.take_add_one, List.getElem?_eq_getElem h1]
  have hb : byt s k = s.data.toList[k] := by unfold byt; rw [List.getD_eq_getElem?_getD, List.getElem?_eq_getElem h1]; rfl
  rw [hb] at hy
  simp [en, ← hy]

theorem laid_all {q : UInt8} {esc : Bool} {s : ByteArray} {k : Nat} (h : k ≤ s.size) (h2 : ¬ k < s.size) : laid_ q esc s k = q :: en q esc s.data.toList := by
  unfold laid_
  rw [List.take_of_length_le]
  rw [Array.length_toList]; exact (by omega : s.size ≤ k)

theorem byt_of {s : ByteArray} {k : Nat} {q : UInt8} : by_ s k = (q.toNat : Int) ↔ byt s k = q := by
  rw [by_byt]
  constructor
  · intro h; exact UInt8.toNat_inj.1 (by omega)
  · intro h; rw [h]

set_option maxHeartbeats 8000000 in
set_option maxRecDepth 100000 in
theorem encode_any (c : Int) (q : UInt8) (hcq : Hid (c = (q.toNat : Int))) (s : ByteArray) (esc : Bool) (w : World) (hn : s.size ≤ 1048576) :
    Calls Try.prog 31 #[.int .u8 c, .string s, .bool esc] w fun e w' => e = .returned (.string ⟨(q :: en q esc s.data.toList ++ [q]).toArray⟩) ∧ Below w.heap.size w w' := by
  obtain ⟨i0, hi, hz0, hz1, hz2⟩ := info_parts Try.Builder_Extra_169.infoByte
  have hle : w.heap.size ≤ w.heap.size := Nat.le_refl _
  have hby : Hid (i0.bytes * (2 * s.size + 2) ≤ 281474976710656) := by show _ ≤ _; rw [hz2]; omega
  have hcap : Hid (2 * (s.size : Int) + 2 = ((2 * s.size + 2 : Nat) : Int)) := by show _ = _; omega
  have hmx : Hid (2 * s.size + 2 ≤ maxLen) := by show _ ≤ _; unfold maxLen; omega
  go_enter Try.func31, Try.ntmps31
  go_wp2_with (at_make; refine wpList_make_own _ rfl (.const (.int .i64 0)) (.tmp 13) 52 rfl w.heap.size 5 i0 (.int .u8 0) 1 Try.underlying52 hi hz0 hz1 _ _ _ (2 * s.size + 2) rfl rfl hcap.out hby.out hmx.out hle ?_)
  intro w0 hown0 hgr0
  have hown : Bytes w.heap.size (.slice (some ⟨w.heap.size, 0, none⟩) 0 (2 * s.size + 2)) [] w0 := hown0
  have hbl : Below w.heap.size w w0 := (Below.refl _ w).grown hgr0 hle (fun k hk => by cases hk)
  clear hown0 hgr0
  go_wp2_with (at_builtin; refine wp_push rfl _ _ rfl _ rfl hown hbl hle _ q hcq.out rfl (by simp) ?_; intro v1 w1 hown1 hbl1)
  go_loopw [7, 8, 9] (fun v j _ wr => ∃ (k : Nat), k ≤ s.size ∧ j = .int .i64 k ∧ Bytes w.heap.size v (laid_ q esc s k) wr ∧ Below w.heap.size w wr) (fun _ j _ _ => s.size - (intOf j).toNat)
  case atStart => exact ⟨0, Nat.zero_le _, rfl, hown1, hbl1⟩
  case round =>
    clear hown hbl hown1 hbl1
    obtain ⟨k, hk, rfl, hown, hbl⟩ := hrel
    have hll := laid_length q esc s k
    by_cases hlt : k < s.size
    · have hik := fun w => idx hlt w
      by_cases hq : by_ s k = c
      · have hqb : (by_ s k == c) = true := by simpa using hq
        have hqh : Hid (by_ s k = c) := hq
        clear hq
        have hl2 : (laid_ q esc s k ++ [q]).length ≤ 4194304 := by rw [List.length_append]; simp; omega
        go_wp2_with (at_builtin; first | (refine wp_push rfl _ _ rfl _ rfl hown2 hbl2 hle _ q hcq.out rfl hl2 ?_; intro v3 w3 hown3 hbl3) | (refine wp_push rfl _ _ rfl _ rfl hown hbl hle _ q hcq.out rfl (by omega) ?_; intro v2 w2 hown2 hbl2))
        go_roundw
        case rel =>
          refine ⟨k + 1, hlt, by go_num, ?_, hbl3⟩
          rw [← laid_step hlt (by unfold e1; rw [if_pos (byt_of.1 (hqh.out.trans hcq.out))]), ]
          simpa using hown3
        case measure => simp [intOf]; omega
      · have hqb : (by_ s k == c) = false := by simpa using hq
        by_cases h92 : by_ s k = 92
        · have h92b : (by_ s k == 92) = true := by simpa using h92
          have h92h : Hid (by_ s k = 92) := h92
          clear h92
          cases esc with
          | true =>
            have hl2 : (laid_ q true s k ++ [92]).length ≤ 4194304 := by rw [List.length_append]; simp; omega
            go_wp2_with (at_builtin; first | (refine wp_push rfl _ _ rfl _ rfl hown2 hbl2 hle _ 92 rfl rfl hl2 ?_; intro v3 w3 hown3 hbl3) | (refine wp_push rfl _ _ rfl _ rfl hown hbl hle _ 92 rfl rfl (by omega) ?_; intro v2 w2 hown2 hbl2))
            go_roundw
            case rel =>
              refine ⟨k + 1, hlt, by go_num, ?_, hbl3⟩
              rw [← laid_step hlt (by unfold e1; rw [if_neg (fun hh => hq ((byt_of.2 hh).trans hcq.out.symm)), if_pos ⟨rfl, byt_92.1 h92h.out⟩])]
              simpa using hown3
            case measure => simp [intOf]; omega
          | false =>
            go_wp2_with (at_builtin; refine wp_push rfl _ _ rfl _ rfl hown hbl hle _ (byt s k) rfl rfl (by omega) ?_; intro v2 w2 hown2 hbl2)
            go_roundw
            case rel =>
              refine ⟨k + 1, hlt, by go_num, ?_, hbl2⟩
              rw [← laid_step hlt (by unfold e1; rw [if_neg (fun hh => hq ((byt_of.2 hh).trans hcq.out.symm)), if_neg (by simp)])]
              exact hown2
            case measure => simp [intOf]; omega
        · have h92b : (by_ s k == 92) = false := by simpa using h92
          cases esc <;>
          · go_wp2_with (at_builtin; refine wp_push rfl _ _ rfl _ rfl hown hbl hle _ (byt s k) rfl rfl (by omega) ?_; intro v2 w2 hown2 hbl2)
            go_roundw
            case rel =>
              refine ⟨k + 1, hlt, by go_num, ?_, hbl2⟩
              rw [← laid_step hlt (by unfold e1; rw [if_neg (fun hh => hq ((byt_of.2 hh).trans hcq.out.symm)), if_neg (fun hh => h92 (byt_92.2 hh.2))])]
              exact hown2
            case measure => simp [intOf]; omega
    · go_wp2_with (at_builtin; refine wp_push rfl _ _ rfl _ rfl hown hbl hle _ q hcq.out rfl (by omega) ?_; intro v2 w2 hown2 hbl2; have hcv := run_text hown2)
      go_ret
      refine ⟨?_, hbl2⟩
      rw [laid_all hk hlt]
      rfl
end Go.Proofs.Qxb6602738a
