/-
  THE WALK OF listItem (seat b6601983a).
-/
import Derived.Test.Qxb6601983aLine
import Derived.Test.Qxb6601983aMarkers
import Derived.Deep.RegionWith
namespace Go.Proofs.Qxb6601983a
open Go.RowKit Plain

theorem mark_at (b off m c n : Nat) (z : Nat → Int) (w : World) (f d W : Nat) (one : Bool) (hm : f + m = n) (hm0 : 0 < m) (hc : ∀ j, j < m → w.cell? ⟨b, off + j, none⟩ = some (.int .u8 (z (f + j))))
    (hd : DigEnd z n f d) (hW : markW z n f d = W) (hO : markO z n f d = one) :
    Calls Try.prog 36 #[.slice (some ⟨b, off, none⟩) m c] w fun e w' => e = .returned (.tuple #[.int .i64 W, .bool one]) ∧ w' = w := by
  subst hW hO
  exact marker_any b off m c n z w f d hm hm0 hc hd

/-- A container's cells. -/
def itemC (a : Bool) (o : Int) (b : Bool) : Array Value := #[.bool a, .int .i64 o, .bool b]
def ItemAt (w : World) (p : Nat) (a : Bool) (o : Int) (b : Bool) : Prop := w.heap[p]? = some (.cells (itemC a o b) 42 (0, 0))
theorem ItemAt.cells {w : World} {p : Nat} {a : Bool} {o : Int} {b : Bool} (h : ItemAt w p a o b) : w.cell? ⟨p, 0, none⟩ = some (.bool a) ∧ w.cell? ⟨p, 1, none⟩ = some (.int .i64 o) ∧ w.cell? ⟨p, 2, none⟩ = some (.bool b) := by
  refine ⟨?_, ?_, ?_⟩ <;> (rw [cell_of_row w p _ _ 42 (0, 0) h]; rfl)
theorem ItemAt.free {w : World} {p : Nat} {a : Bool} {o : Int} {b : Bool} (h : ItemAt w p a o b) (j : Nat) : w.frozen? ⟨p, j, none⟩ = false := frozen_of_row w p j _ 42 h

theorem LineAt.alloc {w : World} {p : Nat} {t : Value} {pos col first fc : Int} (h : LineAt w p t pos col first fc) (o : Obj) : LineAt (w.alloc o) p t pos col first fc := by
  have hp : p < w.heap.size := by
    rcases Nat.lt_or_ge p w.heap.size with h' | h'
    · exact h'
    · exfalso; unfold LineAt at h; rw [Array.getElem?_eq_none h'] at h; cases h
  exact (Below.heap_alloc w o p hp).trans h
theorem LineAt.lt {w : World} {p : Nat} {t : Value} {pos col first fc : Int} (h : LineAt w p t pos col first fc) : p < w.heap.size := by
  rcases Nat.lt_or_ge p w.heap.size with h' | h'
  · exact h'
  · exfalso; unfold LineAt at h; rw [Array.getElem?_eq_none h'] at h; cases h

theorem LineAt.other {w : World} {p : Nat} {t : Value} {pos col first fc : Int} (h : LineAt w p t pos col first fc) {R : Nat} (hR : p ≠ R) (o : Nat) (v : Value) : LineAt (w.setCell ⟨R, o, none⟩ v) p t pos col first fc :=
  (heap_setCell_other w ⟨R, o, none⟩ p v hR).trans h
theorem ItemAt.other {w : World} {p : Nat} {a : Bool} {i : Int} {b : Bool} (h : ItemAt w p a i b) {R : Nat} (hR : p ≠ R) (o : Nat) (v : Value) : ItemAt (w.setCell ⟨R, o, none⟩ v) p a i b :=
  (heap_setCell_other w ⟨R, o, none⟩ p v hR).trans h
theorem grown_other {w w1 : World} {L : Nat} (h : w.grownBy w1 (some L)) {R : Nat} (hR : w.heap.size ≤ R) (o : Nat) (v : Value) : w.grownBy (w1.setCell ⟨R, o, none⟩ v) (some L) :=
  ⟨h.os, h.tape, h.output, by have := h.size; simpa using this, fun k hk hkL => (heap_setCell_other w1 ⟨R, o, none⟩ k v (by simp only; omega)).trans (h.block k hk hkL)⟩
theorem grown_at {w w1 : World} {L : Nat} (h : w.grownBy w1 (some L)) (o : Nat) (v : Value) : w.grownBy (w1.setCell ⟨L, o, none⟩ v) (some L) :=
  ⟨h.os, h.tape, h.output, by have := h.size; simpa using this, fun k hk hkL => (heap_setCell_other w1 ⟨L, o, none⟩ k v (fun e => hkL (by simp only at e; rw [e]))).trans (h.block k hk hkL)⟩
theorem grown_drewN {w w1 : World} {L : Nat} (h : w.grownBy w1 (some L)) (m : Nat) : w.grownBy (w1.drewN m) (some L) := ⟨h.os, h.tape, h.output, h.size, h.block⟩
theorem grown_alloc {w w1 : World} {L : Nat} (h : w.grownBy w1 (some L)) (o : Obj) : w.grownBy (w1.alloc o) (some L) :=
  ⟨h.os, h.tape, h.output, by have := h.size; simp; omega, fun k hk hkL => (Below.heap_alloc w1 o k (by have := h.size; omega)).trans (h.block k hk hkL)⟩
theorem grown_only {w w1 w2 : World} {L R : Nat} (h : w.grownBy w1 (some L)) (hR : w.heap.size ≤ R) (hO : Only R w1 w2) : w.grownBy w2 (some L) :=
  ⟨hO.os.trans h.os, hO.tape.trans h.tape, hO.output.trans h.output, by rw [hO.size]; exact h.size, fun k hk hkL => (hO.block k (by omega)).trans (h.block k hk hkL)⟩

/-- Behind the first call of nonBlank, made in 'w.alloc o' (o: the result's variable). -/
structure Head (w w1 : World) (L b off n c : Nat) (z : Nat → Int) (pos : Nat) (col : Int) (f : Nat) (F : Int) : Prop where
  line : LineAt w1 L (.slice (some ⟨b, off, none⟩) n c) pos col f F
  item : ItemAt w1 w.heap.size false 0 false
  text : ∀ j, j < n → w1.cell? ⟨b, off + j, none⟩ = some (.int .u8 (z j))
  size : w1.heap.size = w.heap.size + 1
  grown : w.grownBy w1 (some L)

theorem head_of (w : World) (L b off n c : Nat) (z : Nat → Int) (hc : ∀ j, j < n → w.cell? ⟨b, off + j, none⟩ = some (.int .u8 (z j))) (hn : n ≤ 1048576) (hbL : b ≠ L)
    (pos f : Nat) (col F fc0 : Int) (hL : LineAt w L (.slice (some ⟨b, off, none⟩) n c) pos col (-1) fc0) (hfn : f < n) (hf : SkipEnd z n pos f) (hF : colAt z pos col f = F) (hc0 : 0 ≤ col) (hc1 : col ≤ 268435456) :
    Calls Try.prog 35 #[.pointer (some ⟨L, 0, none⟩)] (w.alloc (.cells #[.bool false, .int .i64 0, .bool false] 42)) fun e w1 => e = .returned (.tuple #[.int .i64 f, .int .i64 F]) ∧ Head w w1 L b off n c z pos col f F := by
  have hLw := hL.lt
  have hbw : b < w.heap.size := block_lt_of_cell (hc f hfn)
  have hcA : ∀ o j, j < n → (w.alloc o).cell? ⟨b, off + j, none⟩ = some (.int .u8 (z j)) := fun o j hj => by rw [World.cell?_alloc_past o b _ hbw]; exact hc j hj
  refine (nonblank L b off n c z (w.alloc _) (hcA _) hn pos f col (-1) fc0 F (hL.alloc _) (by omega) hf (by omega) (by omega) hF).mono ?_
  rintro e w1 ⟨rfl, hL1, hO1⟩
  refine ⟨rfl, hL1, (hO1.block _ (by omega)).trans (heap_alloc_new w _), fun j hj => (hO1.cell hbL).trans (hcA _ j hj), by rw [hO1.size]; simp, ?_⟩
  refine ⟨hO1.os, hO1.tape, hO1.output, by rw [hO1.size]; simp, fun k hk hkL => ?_⟩
  rw [hO1.block k (fun e => hkL (by rw [e]))]
  exact Below.heap_alloc w _ k hk

theorem Head.marker {w w1 : World} {L b off n c : Nat} {z : Nat → Int} {pos : Nat} {col : Int} {f : Nat} {F : Int} (h : Head w w1 L b off n c z pos col f F) (d W : Nat) (one : Bool) (hfn : f < n)
    (hd : DigEnd z n f d) (hW : markW z n f d = W) (hO : markO z n f d = one) :
    Calls Try.prog 36 #[.slice (some ⟨b, off + f, none⟩) (n - f) (c - f)] w1 fun e w' => e = .returned (.tuple #[.int .i64 W, .bool one]) ∧ w' = w1 :=
  mark_at b (off + f) (n - f) (c - f) n z w1 f d W one (by omega) (by omega) (fun j hj => by rw [Nat.add_assoc]; exact h.text (f + j) (by omega)) hd hW hO

set_option maxHeartbeats 1600000 in
theorem item_none (L b off n c : Nat) (z : Nat → Int) (w : World) (hc : ∀ j, j < n → w.cell? ⟨b, off + j, none⟩ = some (.int .u8 (z j))) (hn : n ≤ 1048576) (hnc : n ≤ c) (hbL : b ≠ L)
    (pos f d : Nat) (col F fc0 : Int) (intr one : Bool) (hL : LineAt w L (.slice (some ⟨b, off, none⟩) n c) pos col (-1) fc0) (hfn : f < n) (hf : SkipEnd z n pos f) (hd : Hid (DigEnd z n f d)) (hW : Hid (markW z n f d = 0)) (hO : Hid (markO z n f d = one))
    (hF : Hid (colAt z pos col f = F)) (hc0 : 0 ≤ col) (hc1 : col ≤ 268435456) :
    Calls Try.prog 30 #[.pointer (some ⟨L, 0, none⟩), .bool intr] w fun e w' => e = .returned (.tuple #[.agg #[.bool false, .int .i64 0, .bool false], .bool false]) ∧ LineAt w' L (.slice (some ⟨b, off, none⟩) n c) pos col f F ∧ w.grownBy w' (some L) := by
  have hLw := hL.lt
  go_enter Try.func30, Try.ntmps30
  go_wp2_with (first
    | (go_at_call 35; refine (head_of w L b off n c z hc hn hbL pos f col F fc0 hL hfn hf hF.out hc0 hc1).mono ?_; rintro e w1 ⟨rfl, hH⟩; have HH : Hid (Head w w1 L b off n c z pos col f F) := hH; obtain ⟨l0, l1, l2, l3, l4⟩ := hH.line.cells; obtain ⟨r0, r1, r2⟩ := hH.item.cells; have f0 := hH.item.free 0; have f1 := hH.item.free 1; have f2 := hH.item.free 2; clear hH)
    | (go_at_call 36; refine (HH.out.marker d 0 one hfn hd.out hW.out hO.out).mono ?_; rintro e w2 ⟨rfl, rfl⟩))
  have hLR : L ≠ w.heap.size := by omega
  refine bodyPost_ret (v := .tuple #[.agg #[.bool false, .int .i64 0, .bool false], .bool false]) (by simp [results, Try.results30, go_sem, r0, r1, r2]) rfl ⟨rfl, ?_, ?_⟩
  · exact ((HH.out.line.other hLR _ _).other hLR _ _).other hLR _ _
  · exact grown_other (grown_other (grown_other HH.out.grown (Nat.le_refl _) _ _) (Nat.le_refl _) _ _) (Nat.le_refl _) _ _

theorem LineAt.cells14 {w : World} {p : Nat} {t : Value} {pos col first fc : Int} (h : LineAt w p t pos col first fc) :
    w.cell? ⟨p, 5, none⟩ = some (.bool false) ∧ w.cell? ⟨p, 6, none⟩ = some (.int .i64 0) ∧ w.cell? ⟨p, 7, none⟩ = some (.int .i64 0) ∧ w.cell? ⟨p, 8, none⟩ = some (.bool false) ∧ w.cell? ⟨p, 9, none⟩ = some (.int .i64 0) ∧ w.cell? ⟨p, 10, none⟩ = some (.int .i64 0) ∧
    w.cell? ⟨p, 11, none⟩ = some (.bool false) ∧ w.cell? ⟨p, 12, none⟩ = some (.int .i64 0) ∧ w.cell? ⟨p, 13, none⟩ = some (.int .i64 0) := by
  refine ⟨?_, ?_, ?_, ?_, ?_, ?_, ?_, ?_, ?_⟩ <;> (rw [cell_of_row w p _ _ 40 (0, 0) h]; rfl)

/-- Behind the second call of nonBlank: R = w.heap.size: the result's variable; R + 1: 'after'. -/
structure Mid (w w2 : World) (L b off n c : Nat) (z : Nat → Int) (pos : Nat) (col : Int) (f : Nat) (F : Int) (W nx : Nat) (X : Int) : Prop where
  line : LineAt w2 L (.slice (some ⟨b, off, none⟩) n c) pos col f F
  aft : LineAt w2 (w.heap.size + 1) (.slice (some ⟨b, off, none⟩) n c) ((f : Int) + W) (F + W) nx X
  item : ItemAt w2 w.heap.size false 0 false
  text : ∀ j, j < n → w2.cell? ⟨b, off + j, none⟩ = some (.int .u8 (z j))
  size : w2.heap.size = w.heap.size + 2
  grown : w.grownBy w2 (some L)

theorem Mid.drewN {w w2 : World} {L b off n c : Nat} {z : Nat → Int} {pos : Nat} {col : Int} {f : Nat} {F : Int} {W nx : Nat} {X : Int} (h : Mid w w2 L b off n c z pos col f F W nx X) (m : Nat) : Mid w (w2.drewN m) L b off n c z pos col f F W nx X :=
  ⟨h.line, h.aft, h.item, h.text, h.size, grown_drewN h.grown m⟩

theorem Head.mid {w w1 : World} {L b off n c : Nat} {z : Nat → Int} {pos : Nat} {col : Int} {f : Nat} {F : Int} (h : Head w w1 L b off n c z pos col f F) (hn : n ≤ 1048576) (hLw : L < w.heap.size) (hbw : b < w.heap.size)
    (W nx : Nat) (X : Int) (hW0 : W ≠ 0) (hF0 : 0 ≤ F) (hF1 : F ≤ 280000000) (hW10 : W ≤ 10) (hnx : SkipEnd z n (f + W) nx) (hX : colAt z (f + W) (F + W) nx = X) :
    Calls Try.prog 35 #[.pointer (some ⟨w.heap.size + 1, 0, none⟩)] (w1.alloc (.cells #[.slice (some ⟨b, off, none⟩) n c, .int .i64 ((f : Int) + W), .int .i64 (F + W), .int .i64 f, .int .i64 F, .bool false, .int .i64 0, .int .i64 0, .bool false, .int .i64 0, .int .i64 0, .bool false, .int .i64 0, .int .i64 0] 40))
      fun e w2 => e = .returned (.tuple #[.int .i64 nx, .int .i64 X]) ∧ Mid w w2 L b off n c z pos col f F W nx X := by
  have hsz := h.size
  have hcA : ∀ o j, j < n → (w1.alloc o).cell? ⟨b, off + j, none⟩ = some (.int .u8 (z j)) := fun o j hj => by rw [World.cell?_alloc_past o b _ (by omega)]; exact h.text j hj
  have hA : LineAt (w1.alloc (.cells #[.slice (some ⟨b, off, none⟩) n c, .int .i64 ((f : Int) + W), .int .i64 (F + W), .int .i64 f, .int .i64 F, .bool false, .int .i64 0, .int .i64 0, .bool false, .int .i64 0, .int .i64 0, .bool false, .int .i64 0, .int .i64 0] 40)) (w.heap.size + 1) (.slice (some ⟨b, off, none⟩) n c) ((f + W : Nat) : Int) (F + W) f F := by
    unfold LineAt
    rw [← hsz, heap_alloc_new, show ((f + W : Nat) : Int) = (f : Int) + W from by simp]
    rfl
  refine (nonblank (w.heap.size + 1) b off n c z _ (hcA _) hn (f + W) nx (F + W) f F X hA (by omega) hnx (by omega) (by omega) hX).mono ?_
  rintro e w2 ⟨rfl, hL2, hO2⟩
  rw [show ((f + W : Nat) : Int) = (f : Int) + W from by simp] at hL2
  refine ⟨rfl, ?_, hL2, ?_, fun j hj => (hO2.cell (by simp only; omega)).trans (hcA _ j hj), by rw [hO2.size]; simp [hsz], ?_⟩
  · exact (hO2.block L (by omega)).trans ((Below.heap_alloc w1 _ L (by omega)).trans h.line)
  · exact (hO2.block w.heap.size (by omega)).trans ((Below.heap_alloc w1 _ w.heap.size (by omega)).trans h.item)
  · exact grown_only (grown_alloc h.grown _) (by omega) hO2

set_option maxHeartbeats 1600000 in
/-- The two refusals behind a marker. -/
theorem item_refuse (L b off n c : Nat) (z : Nat → Int) (w : World) (hc : ∀ j, j < n → w.cell? ⟨b, off + j, none⟩ = some (.int .u8 (z j))) (hn : n ≤ 1048576) (hnc : n ≤ c) (hbL : b ≠ L)
    (pos f d W nx : Nat) (col F X fc0 : Int) (intr one : Bool) (hL : LineAt w L (.slice (some ⟨b, off, none⟩) n c) pos col (-1) fc0) (hfn : f < n) (hf : SkipEnd z n pos f) (hd : Hid (DigEnd z n f d)) (hW : Hid (markW z n f d = W)) (hO : Hid (markO z n f d = one))
    (hF : Hid (colAt z pos col f = F)) (hX : Hid (colAt z (f + W) (F + W) nx = X)) (hnx : Hid (SkipEnd z n (f + W) nx)) (hc0 : 0 ≤ col) (hc1 : col ≤ 268435456) (hW0 : W ≠ 0) (hW10 : W ≤ 10) (hF0 : 0 ≤ F) (hF1 : F ≤ 280000000) (hX0 : F + W ≤ X) (hX1 : X ≤ 290000000)
    (hcase : (nx < n ∧ X = F + W) ∨ (intr = true ∧ (nx = n ∨ (nx < n ∧ X ≠ F + W ∧ one = false)))) :
    Calls Try.prog 30 #[.pointer (some ⟨L, 0, none⟩), .bool intr] w fun e w' => e = .returned (.tuple #[.agg #[.bool false, .int .i64 0, .bool false], .bool false]) ∧ LineAt w' L (.slice (some ⟨b, off, none⟩) n c) pos col f F ∧ w.grownBy w' (some L) := by
  have hLw := hL.lt
  have hbw : b < w.heap.size := block_lt_of_cell (hc f hfn)
  have hWb : ((W : Int) == 0) = false := by simp; omega
  have hLR : L ≠ w.heap.size := by omega
  rcases hcase with ⟨h1, h2⟩ | ⟨rfl, h1 | ⟨h1, h2, rfl⟩⟩
  · have hnb : ((nx : Int) == (n : Int)) = false := by simp; omega
    have hxb : (X - (F + (W : Int)) == 0) = true := by simp; omega
    clear h2
    go_enter Try.func30, Try.ntmps30
    go_wp2_with (first
      | (go_at_call_of 35 L; refine (head_of w L b off n c z hc hn hbL pos f col F fc0 hL hfn hf hF.out hc0 hc1).mono ?_; rintro e w1 ⟨rfl, hH⟩; have HH : Hid (Head w w1 L b off n c z pos col f F) := hH; obtain ⟨l0, l1, l2, l3, l4⟩ := hH.line.cells; obtain ⟨l5, l6, l7, l8, l9, l10, l11, l12, l13⟩ := hH.line.cells14; have hsz := hH.size; clear hH)
      | (go_at_call 36; refine (HH.out.marker d W one hfn hd.out hW.out hO.out).mono ?_; rintro e w2 ⟨rfl, rfl⟩)
      | (go_at_call 35; refine (HH.out.mid hn hLw hbw W nx X hW0 hF0 hF1 hW10 hnx.out hX.out).mono ?_; rintro e w2 ⟨rfl, hM⟩; clear l0 l1 l2 l3 l4 l5 l6 l7 l8 l9 l10 l11 l12 l13 hsz; obtain ⟨l0, l1, l2, l3, l4⟩ := hM.line.cells; obtain ⟨a0, a1, a2, a3, a4⟩ := hM.aft.cells))
    go_quiet (fail)
    have hM3 : Mid w (w2.drewN nq) L b off n c z pos col f F W nx X := hM.drewN nq
    clear l0 l1 l2 l3 l4 a0 a1 a2 a3 a4 hM
    generalize w2.drewN nq = w3 at hM3 ⊢
    obtain ⟨l0, l1, l2, l3, l4⟩ := hM3.line.cells
    obtain ⟨a0, a1, a2, a3, a4⟩ := hM3.aft.cells
    obtain ⟨r0, r1, r2⟩ := hM3.item.cells
    have f0 := hM3.item.free 0
    have f1 := hM3.item.free 1
    have f2 := hM3.item.free 2
    have HM : Hid (Mid w w3 L b off n c z pos col f F W nx X) := hM3
    clear hM3
    go_wp2
    refine bodyPost_ret (v := .tuple #[.agg #[.bool false, .int .i64 0, .bool false], .bool false]) (by simp [results, Try.results30, go_sem, r0, r1, r2]) rfl ⟨rfl, ?_, ?_⟩
    · exact ((HM.out.line.other hLR _ _).other hLR _ _).other hLR _ _
    · exact grown_other (grown_other (grown_other HM.out.grown (Nat.le_refl _) _ _) (Nat.le_refl _) _ _) (Nat.le_refl _) _ _
  · have hnb : ((nx : Int) == (n : Int)) = true := by simp; omega
    clear h1
    go_enter Try.func30, Try.ntmps30
    go_wp2_with (first
      | (go_at_call_of 35 L; refine (head_of w L b off n c z hc hn hbL pos f col F fc0 hL hfn hf hF.out hc0 hc1).mono ?_; rintro e w1 ⟨rfl, hH⟩; have HH : Hid (Head w w1 L b off n c z pos col f F) := hH; obtain ⟨l0, l1, l2, l3, l4⟩ := hH.line.cells; obtain ⟨l5, l6, l7, l8, l9, l10, l11, l12, l13⟩ := hH.line.cells14; have hsz := hH.size; clear hH)
      | (go_at_call 36; refine (HH.out.marker d W one hfn hd.out hW.out hO.out).mono ?_; rintro e w2 ⟨rfl, rfl⟩)
      | (go_at_call 35; refine (HH.out.mid hn hLw hbw W nx X hW0 hF0 hF1 hW10 hnx.out hX.out).mono ?_; rintro e w2 ⟨rfl, hM⟩; clear l0 l1 l2 l3 l4 l5 l6 l7 l8 l9 l10 l11 l12 l13 hsz; obtain ⟨l0, l1, l2, l3, l4⟩ := hM.line.cells; obtain ⟨a0, a1, a2, a3, a4⟩ := hM.aft.cells))
    go_quiet (fail)
    have hM3 : Mid w (w2.drewN nq) L b off n c z pos col f F W nx X := hM.drewN nq
    clear l0 l1 l2 l3 l4 a0 a1 a2 a3 a4 hM
    generalize w2.drewN nq = w3 at hM3 ⊢
    obtain ⟨l0, l1, l2, l3, l4⟩ := hM3.line.cells
    obtain ⟨a0, a1, a2, a3, a4⟩ := hM3.aft.cells
    obtain ⟨r0, r1, r2⟩ := hM3.item.cells
    have f0 := hM3.item.free 0
    have f1 := hM3.item.free 1
    have f2 := hM3.item.free 2
    have HM : Hid (Mid w w3 L b off n c z pos col f F W nx X) := hM3
    clear hM3
    go_wp2
    refine bodyPost_ret (v := .tuple #[.agg #[.bool false, .int .i64 0, .bool false], .bool false]) (by simp [results, Try.results30, go_sem, r0, r1, r2]) rfl ⟨rfl, ?_, ?_⟩
    · exact ((HM.out.line.other hLR _ _).other hLR _ _).other hLR _ _
    · exact grown_other (grown_other (grown_other HM.out.grown (Nat.le_refl _) _ _) (Nat.le_refl _) _ _) (Nat.le_refl _) _ _
  · have hnb : ((nx : Int) == (n : Int)) = false := by simp; omega
    have hxb : (X - (F + (W : Int)) == 0) = false := by simp; omega
    go_enter Try.func30, Try.ntmps30
    go_wp2_with (first
      | (go_at_call_of 35 L; refine (head_of w L b off n c z hc hn hbL pos f col F fc0 hL hfn hf hF.out hc0 hc1).mono ?_; rintro e w1 ⟨rfl, hH⟩; have HH : Hid (Head w w1 L b off n c z pos col f F) := hH; obtain ⟨l0, l1, l2, l3, l4⟩ := hH.line.cells; obtain ⟨l5, l6, l7, l8, l9, l10, l11, l12, l13⟩ := hH.line.cells14; have hsz := hH.size; clear hH)
      | (go_at_call 36; refine (HH.out.marker d W false hfn hd.out hW.out hO.out).mono ?_; rintro e w2 ⟨rfl, rfl⟩)
      | (go_at_call 35; refine (HH.out.mid hn hLw hbw W nx X hW0 hF0 hF1 hW10 hnx.out hX.out).mono ?_; rintro e w2 ⟨rfl, hM⟩; clear l0 l1 l2 l3 l4 l5 l6 l7 l8 l9 l10 l11 l12 l13 hsz; obtain ⟨l0, l1, l2, l3, l4⟩ := hM.line.cells; obtain ⟨a0, a1, a2, a3, a4⟩ := hM.aft.cells))
    go_quiet (fail)
    have hM3 : Mid w (w2.drewN nq) L b off n c z pos col f F W nx X := hM.drewN nq
    clear l0 l1 l2 l3 l4 a0 a1 a2 a3 a4 hM
    generalize w2.drewN nq = w3 at hM3 ⊢
    obtain ⟨l0, l1, l2, l3, l4⟩ := hM3.line.cells
    obtain ⟨a0, a1, a2, a3, a4⟩ := hM3.aft.cells
    obtain ⟨r0, r1, r2⟩ := hM3.item.cells
    have f0 := hM3.item.free 0
    have f1 := hM3.item.free 1
    have f2 := hM3.item.free 2
    have HM : Hid (Mid w w3 L b off n c z pos col f F W nx X) := hM3
    clear hM3
    go_wp2
    refine bodyPost_ret (v := .tuple #[.agg #[.bool false, .int .i64 0, .bool false], .bool false]) (by simp [results, Try.results30, go_sem, r0, r1, r2]) rfl ⟨rfl, ?_, ?_⟩
    · exact ((HM.out.line.other hLR _ _).other hLR _ _).other hLR _ _
    · exact grown_other (grown_other (grown_other HM.out.grown (Nat.le_refl _) _ _) (Nat.le_refl _) _ _) (Nat.le_refl _) _ _

end Go.Proofs.Qxb6601983a
