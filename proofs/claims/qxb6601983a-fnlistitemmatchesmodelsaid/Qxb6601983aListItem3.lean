/-
  THE WALK OF listItem, CONTINUED: the items whose text follows on the line (seat b6601983a).
-/
import Derived.Test.Qxb6601983aListItem2
namespace Go.Proofs.Qxb6601983a
open Go.RowKit Plain
set_option linter.unusedVariables false

/-- Behind the call of advance. -/
structure Aft (w w5 : World) (L b off n c pos : Nat) (col : Int) (f : Nat) (F : Int) (nx : Nat) (X o np nc : Int) : Prop where
  line : LineAt w5 L (.slice (some ⟨b, off, none⟩) n c) pos col f F
  aft : LineAt w5 (w.heap.size + 1) (.slice (some ⟨b, off, none⟩) n c) np nc nx X
  item : ItemAt w5 w.heap.size true o false
  grown : w.grownBy w5 (some L)

/-- What a call of advance does to the line in block p. -/
def Adv (p b off n c : Nat) (z : Nat → Int) (pos col first fc s np nc : Int) : Prop := ∀ w4 : World, (∀ j, j < n → w4.cell? ⟨b, off + j, none⟩ = some (.int .u8 (z j))) → LineAt w4 p (.slice (some ⟨b, off, none⟩) n c) pos col first fc →
  Calls Try.prog 37 #[.pointer (some ⟨p, 0, none⟩), .int .i64 s] w4 fun e w5 => e = .returned (.tuple #[]) ∧ LineAt w5 p (.slice (some ⟨b, off, none⟩) n c) np nc first fc ∧ Only p w4 w5

theorem Mid.adv {w w3 : World} {L b off n c : Nat} {z : Nat → Int} {pos : Nat} {col : Int} {f : Nat} {F : Int} {W nx : Nat} {X : Int} (h : Mid w w3 L b off n c z pos col f F W nx X) (hLw : L < w.heap.size) (hbw : b < w.heap.size) (o s np nc : Int)
    (ha : Adv (w.heap.size + 1) b off n c z ((f : Int) + W) (F + W) nx X s np nc) :
    Calls Try.prog 37 #[.pointer (some ⟨w.heap.size + 1, 0, none⟩), .int .i64 s] (putItem w3 w.heap.size true o false) fun e w5 => e = .returned (.tuple #[]) ∧ Aft w w5 L b off n c pos col f F nx X o np nc := by
  have hT : ∀ j, j < n → (putItem w3 w.heap.size true o false).cell? ⟨b, off + j, none⟩ = some (.int .u8 (z j)) := fun j hj => by
    have e : (putItem w3 w.heap.size true o false).heap[b]? = w3.heap[b]? := by
      unfold putItem
      rw [heap_setCell_other _ _ b _ (by simp only; omega), heap_setCell_other _ _ b _ (by simp only; omega), heap_setCell_other _ _ b _ (by simp only; omega)]
    exact (World.cell?_of_block (a := ⟨b, off + j, none⟩) e).trans (h.text j hj)
  refine (ha _ hT (line_putItem h.aft (by omega) true o false)).mono ?_
  rintro e w5 ⟨rfl, hL5, hO5⟩
  refine ⟨rfl, ?_, hL5, ?_, ?_⟩
  · exact (hO5.block L (by omega)).trans (line_putItem h.line (by omega) true o false)
  · exact (hO5.block w.heap.size (by omega)).trans (item_put h.item true o false)
  · exact grown_only (grown_putItem h.grown (Nat.le_refl _) true o false) (by omega) hO5

set_option maxHeartbeats 3200000 in
/-- The text follows at most four columns behind the marker. -/
theorem item_short (L b off n c : Nat) (z : Nat → Int) (w : World) (hc : ∀ j, j < n → w.cell? ⟨b, off + j, none⟩ = some (.int .u8 (z j))) (hn : n ≤ 1048576) (hnc : n ≤ c) (hbL : b ≠ L)
    (pos f d W nx : Nat) (col F X fc0 : Int) (intr one : Bool) (hL : LineAt w L (.slice (some ⟨b, off, none⟩) n c) pos col (-1) fc0) (hfn : f < n) (hf : SkipEnd z n pos f) (hd : Hid (DigEnd z n f d)) (hW : Hid (markW z n f d = W)) (hO : Hid (markO z n f d = one))
    (hF : Hid (colAt z pos col f = F)) (hX : Hid (colAt z (f + W) (F + W) nx = X)) (hnx : Hid (SkipEnd z n (f + W) nx)) (hc0 : 0 ≤ col) (hc1 : col ≤ 268435456) (hW0 : W ≠ 0) (hW10 : W ≤ 10) (hF0 : 0 ≤ F) (hF1 : F ≤ 280000000) (hX0 : F + W ≤ X) (hX1 : X ≤ 290000000)
    (hlt : nx < n) (hne : X ≠ F + W) (h4 : X - (F + W) ≤ 4) (hio : intr = true → one = true) (np nc : Int) (hadv : Hid (Adv (w.heap.size + 1) b off n c z ((f : Int) + W) (F + W) nx X (X - (F + W)) np nc)) :
    Calls Try.prog 30 #[.pointer (some ⟨L, 0, none⟩), .bool intr] w fun e w' => e = .returned (.tuple #[.agg #[.bool true, .int .i64 (X - col), .bool false], .bool true]) ∧ LineAt w' L (.slice (some ⟨b, off, none⟩) n c) np nc nx X ∧ w.grownBy w' (some L) := by
  have hLw := hL.lt
  have hbw : b < w.heap.size := block_lt_of_cell (hc f hfn)
  have hWb : ((W : Int) == 0) = false := by simp; omega
  have hLR : L ≠ w.heap.size := by omega
  have hnb : ((nx : Int) == (n : Int)) = false := by simp; omega
  have hxb : (X - (F + (W : Int)) == 0) = false := by simp; omega
  have hLR1 : L < w.heap.size + 1 := by omega
  cases intr with
  | true =>
    obtain rfl := hio rfl
    clear hio
    go_enter Try.func30, Try.ntmps30
    go_wp2_with (first
      | (go_at_call_of 35 L; refine (head_of w L b off n c z hc hn hbL pos f col F fc0 hL hfn hf hF.out hc0 hc1).mono ?_; rintro e w1 ⟨rfl, hH⟩; have HH : Hid (Head w w1 L b off n c z pos col f F) := hH; obtain ⟨l0, l1, l2, l3, l4⟩ := hH.line.cells; obtain ⟨l5, l6, l7, l8, l9, l10, l11, l12, l13⟩ := hH.line.cells14; have hsz := hH.size; clear hH)
      | (go_at_call 36; refine (HH.out.marker d W true hfn hd.out hW.out hO.out).mono ?_; rintro e w2 ⟨rfl, rfl⟩)
      | (go_at_call 35; refine (HH.out.mid hn hLw hbw W nx X hW0 hF0 hF1 hW10 hnx.out hX.out).mono ?_; rintro e w2 ⟨rfl, hM⟩; clear l0 l1 l2 l3 l4 l5 l6 l7 l8 l9 l10 l11 l12 l13 hsz; obtain ⟨l0, l1, l2, l3, l4⟩ := hM.line.cells; obtain ⟨a0, a1, a2, a3, a4⟩ := hM.aft.cells))
    go_quiet (fail)
    have hM3 : Mid w (w2.drewN nq) L b off n c z pos col f F W nx X := hM.drewN nq
    clear l0 l1 l2 l3 l4 a0 a1 a2 a3 a4 hM
    generalize w2.drewN nq = w3 at hM3 ⊢
    obtain ⟨l0, l1, l2, l3, l4⟩ := hM3.line.cells
    obtain ⟨l5, l6, l7, l8, l9, l10, l11, l12, l13⟩ := hM3.line.cells14
    obtain ⟨a0, a1, a2, a3, a4⟩ := hM3.aft.cells
    obtain ⟨a5, a6, a7, a8, a9, a10, a11, a12, a13⟩ := hM3.aft.cells14
    obtain ⟨r0, r1, r2⟩ := hM3.item.cells
    have f0 := hM3.item.free 0
    have f1 := hM3.item.free 1
    have f2 := hM3.item.free 2
    have lf := hM3.line.free
    have HM : Hid (Mid w w3 L b off n c z pos col f F W nx X) := hM3
    clear hM3
    go_wp2_with (go_at_call 37; refine (HM.out.adv hLw hbw _ (X - (F + W)) np nc hadv.out).mono ?_; rintro e w5 ⟨rfl, hA5⟩; obtain ⟨l0, l1, l2, l3, l4⟩ := hA5.line.cells; obtain ⟨l5, l6, l7, l8, l9, l10, l11, l12, l13⟩ := hA5.line.cells14; obtain ⟨a0, a1, a2, a3, a4⟩ := hA5.aft.cells; obtain ⟨a5, a6, a7, a8, a9, a10, a11, a12, a13⟩ := hA5.aft.cells14; obtain ⟨r0, r1, r2⟩ := hA5.item.cells; have f0 := hA5.item.free 0; have f1 := hA5.item.free 1; have f2 := hA5.item.free 2; have lf := hA5.line.free; have HA : Hid (Aft w w5 L b off n c pos col f F nx X (F - col + W + (X - (F + W))) np nc) := hA5; clear hA5)
    obtain ⟨w9, hw9, hE1, hE2, hE3⟩ := end_all HA.out.line HA.out.item hLR HA.out.grown (.slice (some ⟨b, off, none⟩) n c) np nc nx X
    show bodyPost Try.prog Try.f30 _ Exit.ret _ (putItem (putLine w5 L (.slice (some ⟨b, off, none⟩) n c) np nc nx X) w.heap.size true (F - col + W + (X - (F + W))) false)
    rw [← hw9]
    obtain ⟨q0, q1, q2⟩ := hE3.cells
    refine bodyPost_ret (v := .tuple #[.agg #[.bool true, .int .i64 (F - col + W + (X - (F + W))), .bool false], .bool true]) (by simp [results, Try.results30, go_sem, q0, q1, q2]) rfl ⟨ret_item (by omega), hE1, hE2⟩
  | false =>
    clear hio
    go_enter Try.func30, Try.ntmps30
    go_wp2_with (first
      | (go_at_call_of 35 L; refine (head_of w L b off n c z hc hn hbL pos f col F fc0 hL hfn hf hF.out hc0 hc1).mono ?_; rintro e w1 ⟨rfl, hH⟩; have HH : Hid (Head w w1 L b off n c z pos col f F) := hH; obtain ⟨l0, l1, l2, l3, l4⟩ := hH.line.cells; obtain ⟨l5, l6, l7, l8, l9, l10, l11, l12, l13⟩ := hH.line.cells14; have hsz := hH.size; clear hH)
      | (go_at_call 36; refine (HH.out.marker d W one hfn hd.out hW.out hO.out).mono ?_; rintro e w2 ⟨rfl, rfl⟩)
      | (go_at_call 35; refine (HH.out.mid hn hLw hbw W nx X hW0 hF0 hF1 hW10 hnx.out hX.out).mono ?_; rintro e w2 ⟨rfl, hM⟩; clear l0 l1 l2 l3 l4 l5 l6 l7 l8 l9 l10 l11 l12 l13 hsz; obtain ⟨l0, l1, l2, l3, l4⟩ := hM.line.cells; obtain ⟨a0, a1, a2, a3, a4⟩ := hM.aft.cells))
    go_quiet (fail)
    have hM3 : Mid w (w2.drewN nq) L b off n c z pos col f F W nx X := hM.drewN nq
    clear l0 l1 l2 l3 l4 a0 a1 a2 a3 a4 hM
    generalize w2.drewN nq = w3 at hM3 ⊢
    obtain ⟨l0, l1, l2, l3, l4⟩ := hM3.line.cells
    obtain ⟨l5, l6, l7, l8, l9, l10, l11, l12, l13⟩ := hM3.line.cells14
    obtain ⟨a0, a1, a2, a3, a4⟩ := hM3.aft.cells
    obtain ⟨a5, a6, a7, a8, a9, a10, a11, a12, a13⟩ := hM3.aft.cells14
    obtain ⟨r0, r1, r2⟩ := hM3.item.cells
    have f0 := hM3.item.free 0
    have f1 := hM3.item.free 1
    have f2 := hM3.item.free 2
    have lf := hM3.line.free
    have HM : Hid (Mid w w3 L b off n c z pos col f F W nx X) := hM3
    clear hM3
    go_wp2_with (go_at_call 37; refine (HM.out.adv hLw hbw _ (X - (F + W)) np nc hadv.out).mono ?_; rintro e w5 ⟨rfl, hA5⟩; obtain ⟨l0, l1, l2, l3, l4⟩ := hA5.line.cells; obtain ⟨l5, l6, l7, l8, l9, l10, l11, l12, l13⟩ := hA5.line.cells14; obtain ⟨a0, a1, a2, a3, a4⟩ := hA5.aft.cells; obtain ⟨a5, a6, a7, a8, a9, a10, a11, a12, a13⟩ := hA5.aft.cells14; obtain ⟨r0, r1, r2⟩ := hA5.item.cells; have f0 := hA5.item.free 0; have f1 := hA5.item.free 1; have f2 := hA5.item.free 2; have lf := hA5.line.free; have HA : Hid (Aft w w5 L b off n c pos col f F nx X (F - col + W + (X - (F + W))) np nc) := hA5; clear hA5)
    obtain ⟨w9, hw9, hE1, hE2, hE3⟩ := end_all HA.out.line HA.out.item hLR HA.out.grown (.slice (some ⟨b, off, none⟩) n c) np nc nx X
    show bodyPost Try.prog Try.f30 _ Exit.ret _ (putItem (putLine w5 L (.slice (some ⟨b, off, none⟩) n c) np nc nx X) w.heap.size true (F - col + W + (X - (F + W))) false)
    rw [← hw9]
    obtain ⟨q0, q1, q2⟩ := hE3.cells
    refine bodyPost_ret (v := .tuple #[.agg #[.bool true, .int .i64 (F - col + W + (X - (F + W))), .bool false], .bool true]) (by simp [results, Try.results30, go_sem, q0, q1, q2]) rfl ⟨ret_item (by omega), hE1, hE2⟩

set_option maxHeartbeats 3200000 in
/-- The text follows more than four columns behind the marker: indented code. -/
theorem item_long (L b off n c : Nat) (z : Nat → Int) (w : World) (hc : ∀ j, j < n → w.cell? ⟨b, off + j, none⟩ = some (.int .u8 (z j))) (hn : n ≤ 1048576) (hnc : n ≤ c) (hbL : b ≠ L)
    (pos f d W nx : Nat) (col F X fc0 : Int) (intr one : Bool) (hL : LineAt w L (.slice (some ⟨b, off, none⟩) n c) pos col (-1) fc0) (hfn : f < n) (hf : SkipEnd z n pos f) (hd : Hid (DigEnd z n f d)) (hW : Hid (markW z n f d = W)) (hO : Hid (markO z n f d = one))
    (hF : Hid (colAt z pos col f = F)) (hX : Hid (colAt z (f + W) (F + W) nx = X)) (hnx : Hid (SkipEnd z n (f + W) nx)) (hc0 : 0 ≤ col) (hc1 : col ≤ 268435456) (hW0 : W ≠ 0) (hW10 : W ≤ 10) (hF0 : 0 ≤ F) (hF1 : F ≤ 280000000) (hX0 : F + W ≤ X) (hX1 : X ≤ 290000000)
    (hlt : nx < n) (hne : X ≠ F + W) (h4 : 4 < X - (F + W)) (hio : intr = true → one = true) (np nc : Int) (hadv : Hid (Adv (w.heap.size + 1) b off n c z ((f : Int) + W) (F + W) nx X 1 np nc)) :
    Calls Try.prog 30 #[.pointer (some ⟨L, 0, none⟩), .bool intr] w fun e w' => e = .returned (.tuple #[.agg #[.bool true, .int .i64 (F + W + 1 - col), .bool false], .bool true]) ∧ LineAt w' L (.slice (some ⟨b, off, none⟩) n c) np nc nx X ∧ w.grownBy w' (some L) := by
  have hLw := hL.lt
  have hbw : b < w.heap.size := block_lt_of_cell (hc f hfn)
  have hWb : ((W : Int) == 0) = false := by simp; omega
  have hLR : L ≠ w.heap.size := by omega
  have hnb : ((nx : Int) == (n : Int)) = false := by simp; omega
  have hxb : (X - (F + (W : Int)) == 0) = false := by simp; omega
  have hLR1 : L < w.heap.size + 1 := by omega
  cases intr with
  | true =>
    obtain rfl := hio rfl
    clear hio
    go_enter Try.func30, Try.ntmps30
    go_wp2_with (first
      | (go_at_call_of 35 L; refine (head_of w L b off n c z hc hn hbL pos f col F fc0 hL hfn hf hF.out hc0 hc1).mono ?_; rintro e w1 ⟨rfl, hH⟩; have HH : Hid (Head w w1 L b off n c z pos col f F) := hH; obtain ⟨l0, l1, l2, l3, l4⟩ := hH.line.cells; obtain ⟨l5, l6, l7, l8, l9, l10, l11, l12, l13⟩ := hH.line.cells14; have hsz := hH.size; clear hH)
      | (go_at_call 36; refine (HH.out.marker d W true hfn hd.out hW.out hO.out).mono ?_; rintro e w2 ⟨rfl, rfl⟩)
      | (go_at_call 35; refine (HH.out.mid hn hLw hbw W nx X hW0 hF0 hF1 hW10 hnx.out hX.out).mono ?_; rintro e w2 ⟨rfl, hM⟩; clear l0 l1 l2 l3 l4 l5 l6 l7 l8 l9 l10 l11 l12 l13 hsz; obtain ⟨l0, l1, l2, l3, l4⟩ := hM.line.cells; obtain ⟨a0, a1, a2, a3, a4⟩ := hM.aft.cells))
    go_quiet (fail)
    have hM3 : Mid w (w2.drewN nq) L b off n c z pos col f F W nx X := hM.drewN nq
    clear l0 l1 l2 l3 l4 a0 a1 a2 a3 a4 hM
    generalize w2.drewN nq = w3 at hM3 ⊢
    obtain ⟨l0, l1, l2, l3, l4⟩ := hM3.line.cells
    obtain ⟨l5, l6, l7, l8, l9, l10, l11, l12, l13⟩ := hM3.line.cells14
    obtain ⟨a0, a1, a2, a3, a4⟩ := hM3.aft.cells
    obtain ⟨a5, a6, a7, a8, a9, a10, a11, a12, a13⟩ := hM3.aft.cells14
    obtain ⟨r0, r1, r2⟩ := hM3.item.cells
    have f0 := hM3.item.free 0
    have f1 := hM3.item.free 1
    have f2 := hM3.item.free 2
    have lf := hM3.line.free
    have HM : Hid (Mid w w3 L b off n c z pos col f F W nx X) := hM3
    clear hM3
    go_wp2_with (go_at_call 37; refine (HM.out.adv hLw hbw _ 1 np nc hadv.out).mono ?_; rintro e w5 ⟨rfl, hA5⟩; obtain ⟨l0, l1, l2, l3, l4⟩ := hA5.line.cells; obtain ⟨l5, l6, l7, l8, l9, l10, l11, l12, l13⟩ := hA5.line.cells14; obtain ⟨a0, a1, a2, a3, a4⟩ := hA5.aft.cells; obtain ⟨a5, a6, a7, a8, a9, a10, a11, a12, a13⟩ := hA5.aft.cells14; obtain ⟨r0, r1, r2⟩ := hA5.item.cells; have f0 := hA5.item.free 0; have f1 := hA5.item.free 1; have f2 := hA5.item.free 2; have lf := hA5.line.free; have HA : Hid (Aft w w5 L b off n c pos col f F nx X (F - col + W + 1) np nc) := hA5; clear hA5)
    obtain ⟨w9, hw9, hE1, hE2, hE3⟩ := end_all HA.out.line HA.out.item hLR HA.out.grown (.slice (some ⟨b, off, none⟩) n c) np nc nx X
    show bodyPost Try.prog Try.f30 _ Exit.ret _ (putItem (putLine w5 L (.slice (some ⟨b, off, none⟩) n c) np nc nx X) w.heap.size true (F - col + W + 1) false)
    rw [← hw9]
    obtain ⟨q0, q1, q2⟩ := hE3.cells
    refine bodyPost_ret (v := .tuple #[.agg #[.bool true, .int .i64 (F - col + W + 1), .bool false], .bool true]) (by simp [results, Try.results30, go_sem, q0, q1, q2]) rfl ⟨ret_item (by omega), hE1, hE2⟩
  | false =>
    clear hio
    go_enter Try.func30, Try.ntmps30
    go_wp2_with (first
      | (go_at_call_of 35 L; refine (head_of w L b off n c z hc hn hbL pos f col F fc0 hL hfn hf hF.out hc0 hc1).mono ?_; rintro e w1 ⟨rfl, hH⟩; have HH : Hid (Head w w1 L b off n c z pos col f F) := hH; obtain ⟨l0, l1, l2, l3, l4⟩ := hH.line.cells; obtain ⟨l5, l6, l7, l8, l9, l10, l11, l12, l13⟩ := hH.line.cells14; have hsz := hH.size; clear hH)
      | (go_at_call 36; refine (HH.out.marker d W one hfn hd.out hW.out hO.out).mono ?_; rintro e w2 ⟨rfl, rfl⟩)
      | (go_at_call 35; refine (HH.out.mid hn hLw hbw W nx X hW0 hF0 hF1 hW10 hnx.out hX.out).mono ?_; rintro e w2 ⟨rfl, hM⟩; clear l0 l1 l2 l3 l4 l5 l6 l7 l8 l9 l10 l11 l12 l13 hsz; obtain ⟨l0, l1, l2, l3, l4⟩ := hM.line.cells; obtain ⟨a0, a1, a2, a3, a4⟩ := hM.aft.cells))
    go_quiet (fail)
    have hM3 : Mid w (w2.drewN nq) L b off n c z pos col f F W nx X := hM.drewN nq
    clear l0 l1 l2 l3 l4 a0 a1 a2 a3 a4 hM
    generalize w2.drewN nq = w3 at hM3 ⊢
    obtain ⟨l0, l1, l2, l3, l4⟩ := hM3.line.cells
    obtain ⟨l5, l6, l7, l8, l9, l10, l11, l12, l13⟩ := hM3.line.cells14
    obtain ⟨a0, a1, a2, a3, a4⟩ := hM3.aft.cells
    obtain ⟨a5, a6, a7, a8, a9, a10, a11, a12, a13⟩ := hM3.aft.cells14
    obtain ⟨r0, r1, r2⟩ := hM3.item.cells
    have f0 := hM3.item.free 0
    have f1 := hM3.item.free 1
    have f2 := hM3.item.free 2
    have lf := hM3.line.free
    have HM : Hid (Mid w w3 L b off n c z pos col f F W nx X) := hM3
    clear hM3
    go_wp2_with (go_at_call 37; refine (HM.out.adv hLw hbw _ 1 np nc hadv.out).mono ?_; rintro e w5 ⟨rfl, hA5⟩; obtain ⟨l0, l1, l2, l3, l4⟩ := hA5.line.cells; obtain ⟨l5, l6, l7, l8, l9, l10, l11, l12, l13⟩ := hA5.line.cells14; obtain ⟨a0, a1, a2, a3, a4⟩ := hA5.aft.cells; obtain ⟨a5, a6, a7, a8, a9, a10, a11, a12, a13⟩ := hA5.aft.cells14; obtain ⟨r0, r1, r2⟩ := hA5.item.cells; have f0 := hA5.item.free 0; have f1 := hA5.item.free 1; have f2 := hA5.item.free 2; have lf := hA5.line.free; have HA : Hid (Aft w w5 L b off n c pos col f F nx X (F - col + W + 1) np nc) := hA5; clear hA5)
    obtain ⟨w9, hw9, hE1, hE2, hE3⟩ := end_all HA.out.line HA.out.item hLR HA.out.grown (.slice (some ⟨b, off, none⟩) n c) np nc nx X
    show bodyPost Try.prog Try.f30 _ Exit.ret _ (putItem (putLine w5 L (.slice (some ⟨b, off, none⟩) n c) np nc nx X) w.heap.size true (F - col + W + 1) false)
    rw [← hw9]
    obtain ⟨q0, q1, q2⟩ := hE3.cells
    refine bodyPost_ret (v := .tuple #[.agg #[.bool true, .int .i64 (F - col + W + 1), .bool false], .bool true]) (by simp [results, Try.results30, go_sem, q0, q1, q2]) rfl ⟨ret_item (by omega), hE1, hE2⟩
end Go.Proofs.Qxb6601983a
