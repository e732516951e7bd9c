/-
  THE WALK OF readQuoted (seat b6602738a).
-/
import Derived.Test.Qxb6602738aQLeaves
set_option linter.unusedVariables false
namespace Go.Proofs.Qxb6602738a
open Go.RowKit Quoted

def byt (s : ByteArray) (k : Nat) : UInt8 := s.data.toList.getD k 0
theorem by_byt (s : ByteArray) (k : Nat) : by_ s k = ((byt s k).toNat : Int) := rfl
theorem byt_eq {s : ByteArray} {j k : Nat} : by_ s j = by_ s k ↔ byt s j = byt s k := by
  rw [by_byt, by_byt]
  constructor
  · intro h; exact UInt8.toNat_inj.1 (by omega)
  · intro h; rw [h]
theorem byt_92 {s : ByteArray} {j : Nat} : by_ s j = 92 ↔ byt s j = 92 := by
  rw [by_byt]
  constructor
  · intro h; exact UInt8.toNat_inj.1 (by simp; omega)
  · intro h; rw [h]; rfl

/-- The text behind the opening quote at i. -/
def tail_ (s : ByteArray) (i : Nat) : List UInt8 := s.data.toList.drop (i + 1)
theorem tail_length (s : ByteArray) (i : Nat) : (tail_ s i).length = s.size - (i + 1) := by
  unfold tail_; rw [List.length_drop, Array.length_toList]; rfl
theorem tail_at {s : ByteArray} {i m : Nat} (h : m < (tail_ s i).length) : (tail_ s i)[m] = byt s (i + 1 + m) := by
  have h1 : i + 1 + m < s.data.toList.length := by rw [tail_length] at h; rw [Array.length_toList]; exact (by omega : i + 1 + m < s.size)
  have h2 : (tail_ s i)[m]? = s.data.toList[i + 1 + m]? := by unfold tail_; rw [List.getElem?_drop]
  rw [List.getElem?_eq_getElem h, List.getElem?_eq_getElem h1] at h2
  unfold byt
  rw [List.getD_eq_getElem?_getD, List.getElem?_eq_getElem h1]
  exact Option.some.inj h2

/-- What readQuoted answers. -/
def ans (s : ByteArray) (i : Nat) (esc : Bool) : Value :=
  match rd (byt s i) esc (tail_ s i) with
  | some (v, m) => .tuple #[.string ⟨v.toArray⟩, .int .i64 ((i + 1 + m : Nat) : Int), .bool true]
  | none => .tuple #[.string ⟨#[]⟩, .int .i64 s.size, .bool false]

/-- What has been read ahead of k. -/
def Rel (s : ByteArray) (i : Nat) (esc : Bool) (acc : List UInt8) (k : Nat) : Prop := i + 1 ≤ k ∧ k ≤ s.size ∧ acc.length ≤ k ∧ Far (byt s i) esc (tail_ s i) acc (k - (i + 1))

theorem rel_start {s : ByteArray} {i : Nat} {esc : Bool} (h : i < s.size) : Rel s i esc [] (i + 1) := by
  refine ⟨Nat.le_refl _, h, Nat.zero_le _, ?_⟩
  rw [Nat.sub_self]; exact far_start _ _ _

theorem rel_step {s : ByteArray} {i k d : Nat} {esc : Bool} {acc ys : List UInt8} (h : Rel s i esc acc k) (hk : k + d ≤ s.size) (hy : ys.length ≤ d)
    (hs : rd (byt s i) esc ((tail_ s i).drop (k - (i + 1))) = (rd (byt s i) esc ((tail_ s i).drop (k - (i + 1) + d))).map (more ys d)) : Rel s i esc (acc ++ ys) (k + d) := by
  obtain ⟨h1, h2, h3, h4⟩ := h
  refine ⟨by omega, hk, by simp; omega, ?_⟩
  rw [show k + d - (i + 1) = k - (i + 1) + d by omega]
  exact far_step h4 hs (by rw [tail_length]; omega) hy

theorem tail_k {s : ByteArray} {i k : Nat} (h1 : i + 1 ≤ k) (h : k - (i + 1) < (tail_ s i).length) : (tail_ s i)[k - (i + 1)] = byt s k := by
  rw [tail_at, show i + 1 + (k - (i + 1)) = k by omega]
theorem tail_k1 {s : ByteArray} {i k : Nat} (h1 : i + 1 ≤ k) (h : k - (i + 1) + 1 < (tail_ s i).length) : (tail_ s i)[k - (i + 1) + 1] = byt s (k + 1) := by
  rw [tail_at, show i + 1 + (k - (i + 1) + 1) = k + 1 by omega]

theorem rel_twice {s : ByteArray} {i k : Nat} {esc : Bool} {acc : List UInt8} (h : Rel s i esc acc k) (hk : k + 1 < s.size) (hc : by_ s k = by_ s i) (hd : by_ s (k + 1) = by_ s i) : Rel s i esc (acc ++ [byt s i]) (k + 2) := by
  have hl : k - (i + 1) + 1 < (tail_ s i).length := by rw [tail_length]; have := h.1; omega
  exact rel_step h (by omega) (by simp) (rd_twice hl ((tail_k h.1 (by omega)).trans (byt_eq.1 hc)) ((tail_k1 h.1 hl).trans (byt_eq.1 hd)))

theorem rel_escape {s : ByteArray} {i k : Nat} {esc : Bool} {acc : List UInt8} (h : Rel s i esc acc k) (hk : k + 1 < s.size) (hc : by_ s k = 92) (hq : by_ s k ≠ by_ s i) (he : esc = true) : Rel s i esc (acc ++ [unesc (byt s (k + 1))]) (k + 2) := by
  have hl : k - (i + 1) + 1 < (tail_ s i).length := by rw [tail_length]; have := h.1; omega
  have e1 := tail_k h.1 (by omega : k - (i + 1) < (tail_ s i).length)
  have := rd_escape (q := byt s i) hl (e1.trans (byt_92.1 hc)) (by rw [e1]; exact fun hh => hq (byt_eq.2 hh)) he
  rw [tail_k1 h.1 hl] at this
  exact rel_step h (by omega) (by simp) this

theorem rel_plain {s : ByteArray} {i k : Nat} {esc : Bool} {acc : List UInt8} (h : Rel s i esc acc k) (hk : k < s.size) (hq : by_ s k ≠ by_ s i) (he : ¬ (by_ s k = 92 ∧ esc = true ∧ k + 1 < s.size)) : Rel s i esc (acc ++ [byt s k]) (k + 1) := by
  have hl : k - (i + 1) < (tail_ s i).length := by rw [tail_length]; have := h.1; omega
  have e1 := tail_k h.1 hl
  have := rd_plain (q := byt s i) (esc := esc) hl (by rw [e1]; exact fun hh => hq (byt_eq.2 hh)) (by
    rw [e1]; intro hh; refine he ⟨byt_92.2 hh.1, hh.2.1, ?_⟩
    have := hh.2.2; rw [tail_length] at this; have := h.1; omega)
  rw [e1] at this
  exact rel_step h (by omega) (by simp) this

theorem rel_close {s : ByteArray} {i k : Nat} {esc : Bool} {acc : List UInt8} (h : Rel s i esc acc k) (hk : k < s.size) (hc : by_ s k = by_ s i) (hd : k + 1 < s.size → by_ s (k + 1) ≠ by_ s i) :
    Value.tuple #[.string ⟨acc.toArray⟩, .int .i64 ((k : Int) + 1), .bool true] = ans s i esc := by
  have hl : k - (i + 1) < (tail_ s i).length := by rw [tail_length]; have := h.1; omega
  have e1 := tail_k h.1 hl
  have := far_close h.2.2.2 hl (e1.trans (byt_eq.1 hc)) (fun h1 => by
    rw [tail_k1 h.1 h1]; refine fun hh => hd ?_ (byt_eq.2 hh)
    rw [tail_length] at h1; have := h.1; omega)
  unfold ans
  rw [this]
  have := h.1
  simp only
  rw [show i + 1 + (k - (i + 1) + 1) = k + 1 by omega]
  rfl

theorem rel_none {s : ByteArray} {i k : Nat} {esc : Bool} {acc : List UInt8} (h : Rel s i esc acc k) (hk : ¬ k < s.size) :
    Value.tuple #[.string ⟨#[]⟩, .int .i64 s.size, .bool false] = ans s i esc := by
  have := far_none h.2.2.2 (by rw [tail_length]; have := h.1; omega)
  unfold ans
  rw [this]

theorem cells_more (acc : List UInt8) (b : UInt8) : Lib.byteCells acc ++ [.int .u8 (b.toNat : Int)] = Lib.byteCells (acc ++ [b]) := by simp [Lib.byteCells]
theorem cells_length (acc : List UInt8) : (Lib.byteCells acc).length = acc.length := by simp [Lib.byteCells]

/-- WriteByte in the walk's words. -/
theorem write1 {acc : List UInt8} {w wr : World} (h : Lib.IsBuilder 59 5 w.heap.size w.heap.size (Lib.byteCells acc) wr) (hb : Below w.heap.size w wr) (hl : acc.length ≤ 1048577) (c : Int) (b : UInt8) (hc : c = (b.toNat : Int)) :
    Calls Try.prog 41 #[.pointer (some ⟨w.heap.size, 0, none⟩), .int .u8 c] wr fun e w' => e = .returned .nilIface ∧ (Lib.IsBuilder 59 5 w.heap.size w.heap.size (Lib.byteCells (acc ++ [b])) w' ∧ Below w.heap.size w w') := by
  refine (writeByte w.heap.size w.heap.size _ c wr h (by rw [cells_length]; omega) hb.size).mono ?_
  rintro e w' ⟨rfl, h1, h2⟩
  subst hc
  rw [cells_more] at h1
  exact ⟨rfl, Or.inr h1, hb.trans h2⟩

/-- String in the walk's words. -/
theorem text1 {acc : List UInt8} {w wr : World} (h : Lib.IsBuilder 59 5 w.heap.size w.heap.size (Lib.byteCells acc) wr) (hb : Below w.heap.size w wr) :
    Calls Try.prog 42 #[.pointer (some ⟨w.heap.size, 0, none⟩)] wr fun e w' => e = .returned (.string ⟨acc.toArray⟩) ∧ Below w.heap.size w w' := by
  refine (Try.Builder_String_any w.heap.size w.heap.size acc wr h hb.size).mono ?_
  rintro e w' ⟨rfl, h2⟩
  exact ⟨rfl, hb.trans h2⟩

set_option maxHeartbeats 8000000 in
set_option maxRecDepth 100000 in
theorem readQuoted_any (s : ByteArray) (i : Nat) (esc : Bool) (w : World) (hi : i < s.size) (hn : s.size ≤ 1048576) :
    Calls Try.prog 36 #[.string s, .int .i64 i, .bool esc] w fun e w' => e = .returned (ans s i esc) ∧ Below w.heap.size w w' := by
  have hii := fun w => idx hi w
  go_enter Try.func36, Try.ntmps36
  go_wp2
  go_loopw [11, 12] (fun j _ wr => ∃ (k : Nat) (acc : List UInt8), Rel s i esc acc k ∧ j = .int .i64 k ∧ Lib.IsBuilder 59 5 w.heap.size w.heap.size (Lib.byteCells acc) wr ∧ Below w.heap.size w wr) (fun j _ _ => s.size - (intOf j).toNat)
  case atStart => exact ⟨i + 1, [], rel_start hi, by go_num, Lib.fresh_isBuilder 59 5 w, (Below.refl _ w).alloc (Nat.le_refl _) _⟩
  case round =>
    obtain ⟨k, acc, hR, rfl, hBu, hbl⟩ := hrel
    have hk1 := hR.1
    have hk2 := hR.2.1
    have hk3 := hR.2.2.1
    by_cases hlt : k < s.size
    · have hik := fun w => idx hlt w
      by_cases hq : by_ s k = by_ s i
      · have hqb : (by_ s k == by_ s i) = true := by simpa using hq
        by_cases hl1 : k + 1 < s.size
        · have hik1 : ∀ w, (Instr.index 9 (.string s) (.int .i64 ((k : Int) + 1))).run Try.prog w = .ok (.int .u8 (by_ s (k + 1))) w := fun w => idx hl1 w
          by_cases hd : by_ s (k + 1) = by_ s i
          · have hdb : (by_ s (k + 1) == by_ s i) = true := by simpa using hd
            go_wp2_with (go_at_call 41; refine (write1 hBu hbl (by omega) _ (byt s i) rfl).mono ?_; rintro e w' ⟨rfl, hBu', hbl'⟩)
            go_roundw
            case rel => exact ⟨k + 2, _, rel_twice hR hl1 hq hd, by go_num, hBu', hbl'⟩
            case measure => simp [intOf]; omega
          · have hdb : (by_ s (k + 1) == by_ s i) = false := by simpa using hd
            go_wp2_with (go_at_call 42; refine (text1 hBu hbl).mono ?_; rintro e w' ⟨rfl, hbl'⟩)
            go_ret3
            exact ⟨congrArg Ending.returned (rel_close hR hlt hq (fun _ => hd)), hbl'⟩
        · go_wp2_with (go_at_call 42; refine (text1 hBu hbl).mono ?_; rintro e w' ⟨rfl, hbl'⟩)
          go_ret3
          exact ⟨congrArg Ending.returned (rel_close hR hlt hq (fun h => absurd h hl1)), hbl'⟩
      · have hqb : (by_ s k == by_ s i) = false := by simpa using hq
        by_cases he : by_ s k = 92 ∧ esc = true ∧ k + 1 < s.size
        · obtain ⟨h92, hesc, hl1⟩ := he
          subst hesc
          have h92b : (by_ s k == 92) = true := by simpa using h92
          have h92h : Hid (by_ s k = 92) := h92
          clear h92
          have hik1 : ∀ w, (Instr.index 9 (.string s) (.int .i64 ((k : Int) + 1))).run Try.prog w = .ok (.int .u8 (by_ s (k + 1))) w := fun w => idx hl1 w
          go_wp2_with (first | (go_at_call 43; refine (unescape_any _ _).mono ?_; rintro e w' ⟨rfl, rfl⟩) | (go_at_call 41; refine (write1 hBu hbl (by omega) _ (unesc (byt s (k + 1))) (unescI_of _)).mono ?_; rintro e w' ⟨rfl, hBu', hbl'⟩))
          go_roundw
          case rel => exact ⟨k + 2, _, rel_escape hR hl1 h92h.out hq rfl, by go_num, hBu', hbl'⟩
          case measure => simp [intOf]; omega
        · have hwr : ∀ wr, Lib.IsBuilder 59 5 w.heap.size w.heap.size (Lib.byteCells acc) wr → Below w.heap.size w wr → Hid (Calls Try.prog 41 #[.pointer (some ⟨w.heap.size, 0, none⟩), .int .u8 (by_ s k)] wr fun e w' => e = .returned .nilIface ∧ (Lib.IsBuilder 59 5 w.heap.size w.heap.size (Lib.byteCells (acc ++ [byt s k])) w' ∧ Below w.heap.size w w')) := fun wr h h' => write1 h h' (by omega) _ (byt s k) rfl
          have heh : Hid (¬ (by_ s k = 92 ∧ esc = true ∧ k + 1 < s.size)) := he
          clear he
          by_cases h92 : by_ s k = 92
          · have h92b : (by_ s k == 92) = true := by simpa using h92
            have h92h : Hid (by_ s k = 92) := h92
            clear h92
            cases esc with
            | true =>
              have hl1 : ¬ k + 1 < s.size := fun h => heh.out ⟨h92h.out, rfl, h⟩
              go_wp2_with (go_at_call 41; refine (hwr _ hBu hbl).out.mono ?_; rintro e w' ⟨rfl, hBu', hbl'⟩)
              go_roundw
              case rel => exact ⟨k + 1, _, rel_plain hR hlt hq (fun h => hl1 h.2.2), by go_num, hBu', hbl'⟩
              case measure => simp [intOf]; omega
            | false =>
              go_wp2_with (go_at_call 41; refine (hwr _ hBu hbl).out.mono ?_; rintro e w' ⟨rfl, hBu', hbl'⟩)
              go_roundw
              case rel => exact ⟨k + 1, _, rel_plain hR hlt hq heh.out, by go_num, hBu', hbl'⟩
              case measure => simp [intOf]; omega
          · have h92b : (by_ s k == 92) = false := by simpa using h92
            go_wp2_with (go_at_call 41; refine (hwr _ hBu hbl).out.mono ?_; rintro e w' ⟨rfl, hBu', hbl'⟩)
            go_roundw
            case rel => exact ⟨k + 1, _, rel_plain hR hlt hq heh.out, by go_num, hBu', hbl'⟩
            case measure => simp [intOf]; omega
    · go_wp2
      go_ret3
      exact ⟨congrArg Ending.returned (rel_none hR hlt), hbl⟩
end Go.Proofs.Qxb6602738a
