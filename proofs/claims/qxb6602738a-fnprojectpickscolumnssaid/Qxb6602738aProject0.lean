/-
  project AT NO POSITIONS (seat b6602738a).
-/
import Derived.Test.Qxb6602738aProject
namespace Go.Proofs.Qxb6602738a
open Go.RowKit Go.Deep

/-- The projected rows under way, all of them empty. -/
def POwn0 (g n : Nat) (w : World) (k : Nat) : Prop :=
  ∃ ys : List Value, w.ownsRow g 32 1 (.slice (some ⟨g, 0, none⟩) n n) n ys ∧ ys.length = n ∧ ∀ i, i < k → ∃ a c, ys[i]? = some (.slice a 0 c)
theorem pOwn0_cell {g n : Nat} {w : World} {k : Nat} (h : POwn0 g n w k) {j : Nat} (hj : j < n) : ∃ v, w.cell? ⟨g, j, none⟩ = some v := by
  obtain ⟨xs, ho, hl, _⟩ := h
  exact ⟨xs[j]'(by omega), by rw [ho.cellAt j (by omega)]; simp [hl, hj]⟩
theorem pOwn0_free {g n : Nat} {w : World} {k : Nat} (h : POwn0 g n w k) (j : Nat) : w.frozen? ⟨g, j, none⟩ = false := by
  obtain ⟨xs, ho, hl, _⟩ := h
  exact ho.frozenAt j
theorem pOwn0_step {g n : Nat} {w : World} {k : Nat} (h : POwn0 g n w k) (hk : k < n) (a : Option Addr) (c : Nat) : POwn0 g n (w.setCell ⟨g, k, none⟩ (.slice a 0 c)) (k + 1) := by
  obtain ⟨xs, ho, hl, hx⟩ := h
  refine ⟨_, (ho.stored k _).1, by simpa using hl, fun i hi => ?_⟩
  by_cases e : i = k
  · subst e; exact ⟨a, c, by simp [hl, hk]⟩
  · rw [List.getElem?_set_ne (by omega)]; exact hx i (by omega)
theorem src_made0 {g n : Nat} {K I : Nat → Nat → Int} {S : Nat → Nat → ByteArray} {w : World} (h1 : POwn0 g n w n) : ∃ A2 C2, Src w g n A2 (fun _ => 0) C2 K I S := by
  obtain ⟨ys, ho, hl, hx⟩ := h1
  obtain ⟨f, hf⟩ := choose_lt (α := Option Addr × Nat) (p := fun i q => ys[i]? = some (.slice q.1 0 q.2)) (fun i hi => by obtain ⟨a, c, h⟩ := hx i hi; exact ⟨(a, c), h⟩)
  exact ⟨fun i => (f i).1, fun i => (f i).2, ⟨fun i hi => by rw [ho.cellAt i (by omega)]; exact hf i hi, fun i hi h => by omega⟩⟩

set_option maxHeartbeats 3200000 in
theorem project_empty (a : Option Addr) (B n c : Nat) (A : Nat → Option Addr) (L C : Nat → Nat) (K I K' I' : Nat → Nat → Int) (S S' : Nat → Nat → ByteArray) (pa : Option Addr) (pc : Nat) (width : Int) (w : World)
    (hS : 0 < n → a = some ⟨B, 0, none⟩ ∧ Src w B n A L C K I S) (hn : n ≤ 1048576) (hw : width ≠ 0) :
    Calls Try.prog 33 #[.slice a n c, .slice pa 0 pc, .int .i64 width] w fun e w' => PEnd w.heap.size n 0 K' I' S' w' e ∧ Below w.heap.size w w' := by
  obtain ⟨i0, hi, hz0, hz1, hz2⟩ := info_parts Try.info32
  obtain ⟨i1, gi, gz0, gz1, gz2⟩ := info_parts Try.info36
  have hby1 : Hid (i1.bytes * 0 ≤ 281474976710656) := by show _ ≤ _; omega
  have hmx1 : Hid (0 ≤ maxLen) := Nat.zero_le _
  have hby0 : Hid (i0.bytes * n ≤ 281474976710656) := by show _ ≤ _; rw [hz2]; omega
  have hmx0 : Hid (n ≤ maxLen) := by show _ ≤ _; unfold maxLen; omega
  have hwb : ((0 : Int) == width) = false := by simp; omega
  go_enter Try.func33, Try.ntmps33
  go_wp2
  refine wp_loop_rounds 1 ?_; rw [rounds_succ]
  go_wp2_with (first
    | (at_make; refine wpList_make_full _ rfl (.tmp 38) (.tmp 38) 31 rfl w.heap.size 36 i1 (.agg #[.int .u8 0, .int .i64 0, .string ByteArray.empty]) 3 Try.underlying31 gi gz0 gz1 _ _ _ _ 0 rfl rfl rfl rfl hby1.out hmx1.out (Nat.le_refl _) ?_; intro w1 hown1 hgrow1; have hb1 : Below w.heap.size w w1 := (Below.refl _ _).grown hgrow1 (Nat.le_refl _) (fun k h => by cases h); clear hown1 hgrow1)
    | (at_make; refine wpList_make_full _ rfl (.tmp 41) (.tmp 41) 28 rfl w1.heap.size 32 i0 (.slice none 0 0) 1 Try.underlying28 hi hz0 hz1 _ _ _ _ n rfl rfl rfl rfl hby0.out hmx0.out (Nat.le_refl _) ?_; intro w2 hown2 hgrow2; have hb2 : Below w1.heap.size w1 w2 := (Below.refl _ _).grown hgrow2 (Nat.le_refl _) (fun k h => by cases h); have ho2 : POwn0 w1.heap.size n w2 0 := ⟨_, hown2, by simpa using hown2.1, fun j hj => by omega⟩; have hb3 : Below w.heap.size w w2 := hb1.trans (hb2.mono hb1.size); have hV1 := hb1.size; clear hown2 hgrow2 hb1 hb2))
  obtain ⟨V, hV⟩ : ∃ V, V = w.heap.size := ⟨_, rfl⟩
  obtain ⟨g, hg⟩ : ∃ g, g = w1.heap.size := ⟨_, rfl⟩
  rw [← hV] at hV1 hb3
  rw [← hg] at ho2 hV1
  rw [← hV, ← hg]
  have HV : Hid (V = w.heap.size) := hV
  have HG : Hid (g = w1.heap.size) := hg
  clear hV hg
  go_loopw [12, 13, 14, 15, 16, 45] (fun _ _ _ _ _ i wr => ∃ k : Nat, k ≤ n ∧ i = .int .i64 k ∧ Below V w wr ∧ POwn0 g n wr k) (fun _ _ _ _ _ i _ => n - (intOf i).toNat)
  case atStart => exact ⟨0, Nat.zero_le _, rfl, hb3, ho2⟩
  case round =>
    obtain ⟨i, hin, rfl, hb, ho⟩ := hrel
    by_cases hlti : i < n
    · obtain ⟨ha, hsrc⟩ := hS (by omega)
      subst ha
      have hci : wr.cell? ⟨B, i, none⟩ = some (.slice (A i) (L i) (C i)) := (hb.cell (by rw [HV.out]; exact block_lt_of_cell (hsrc.cells i hlti))).trans (hsrc.cells i hlti)
      obtain ⟨d0, e0⟩ := pOwn0_cell ho hlti
      have z0 := pOwn0_free ho i
      go_wp2
      refine wp_loop_rounds 1 ?_; rw [rounds_succ]
      go_wp2
      go_roundw
      case rel => exact ⟨i + 1, by omega, by go_num, hb.setCell (by simp only; omega) _, pOwn0_step ho hlti _ _⟩
      case measure => simp [intOf]; omega
    · obtain rfl : i = n := by omega
      obtain ⟨A2, C2, hs⟩ := src_made0 (K := K') (I := I') (S := S') ho
      go_wp2
      go_ret
      exact ⟨⟨g, A2, C2, rfl, by have := HV.out; omega, hs⟩, by rw [← HV.out]; exact hb⟩
end Go.Proofs.Qxb6602738a
