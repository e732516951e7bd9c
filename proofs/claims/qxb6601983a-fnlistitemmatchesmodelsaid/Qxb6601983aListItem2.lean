/-
  THE WALK OF listItem, CONTINUED: the items that it opens (seat b6601983a).
-/
import Derived.Test.Qxb6601983aListItem
namespace Go.Proofs.Qxb6601983a
open Go.RowKit Plain

abbrev putItem (w : World) (R : Nat) (a : Bool) (o : Int) (b : Bool) : World := ((w.setCell ⟨R, 0, none⟩ (.bool a)).setCell ⟨R, 1, none⟩ (.int .i64 o)).setCell ⟨R, 2, none⟩ (.bool b)
abbrev putLine (w : World) (L : Nat) (t : Value) (p q r s : Int) : World :=
  (((((((((((((w.setCell ⟨L, 0, none⟩ t).setCell ⟨L, 1, none⟩ (.int .i64 p)).setCell ⟨L, 2, none⟩ (.int .i64 q)).setCell ⟨L, 3, none⟩ (.int .i64 r)).setCell ⟨L, 4, none⟩ (.int .i64 s)).setCell ⟨L, 5, none⟩ (.bool false)).setCell ⟨L, 6, none⟩ (.int .i64 0)).setCell ⟨L, 7, none⟩ (.int .i64 0)).setCell ⟨L, 8, none⟩ (.bool false)).setCell ⟨L, 9, none⟩ (.int .i64 0)).setCell ⟨L, 10, none⟩ (.int .i64 0)).setCell ⟨L, 11, none⟩ (.bool false)).setCell ⟨L, 12, none⟩ (.int .i64 0)).setCell ⟨L, 13, none⟩ (.int .i64 0)

theorem LineAt.set0 {w : World} {p : Nat} {t : Value} {pos col first fc : Int} (h : LineAt w p t pos col first fc) (x : Value) : LineAt (w.setCell ⟨p, 0, none⟩ x) p x pos col first fc := heap_setCell_same w p 0 _ 40 _ h
theorem LineAt.set5 {w : World} {p : Nat} {t : Value} {pos col first fc : Int} (h : LineAt w p t pos col first fc) : LineAt (w.setCell ⟨p, 5, none⟩ (.bool false)) p t pos col first fc := heap_setCell_same w p 5 _ 40 _ h
theorem LineAt.set6 {w : World} {p : Nat} {t : Value} {pos col first fc : Int} (h : LineAt w p t pos col first fc) : LineAt (w.setCell ⟨p, 6, none⟩ (.int .i64 0)) p t pos col first fc := heap_setCell_same w p 6 _ 40 _ h
theorem LineAt.set7 {w : World} {p : Nat} {t : Value} {pos col first fc : Int} (h : LineAt w p t pos col first fc) : LineAt (w.setCell ⟨p, 7, none⟩ (.int .i64 0)) p t pos col first fc := heap_setCell_same w p 7 _ 40 _ h
theorem LineAt.set8 {w : World} {p : Nat} {t : Value} {pos col first fc : Int} (h : LineAt w p t pos col first fc) : LineAt (w.setCell ⟨p, 8, none⟩ (.bool false)) p t pos col first fc := heap_setCell_same w p 8 _ 40 _ h
theorem LineAt.set9 {w : World} {p : Nat} {t : Value} {pos col first fc : Int} (h : LineAt w p t pos col first fc) : LineAt (w.setCell ⟨p, 9, none⟩ (.int .i64 0)) p t pos col first fc := heap_setCell_same w p 9 _ 40 _ h
theorem LineAt.set10 {w : World} {p : Nat} {t : Value} {pos col first fc : Int} (h : LineAt w p t pos col first fc) : LineAt (w.setCell ⟨p, 10, none⟩ (.int .i64 0)) p t pos col first fc := heap_setCell_same w p 10 _ 40 _ h
theorem LineAt.set11 {w : World} {p : Nat} {t : Value} {pos col first fc : Int} (h : LineAt w p t pos col first fc) : LineAt (w.setCell ⟨p, 11, none⟩ (.bool false)) p t pos col first fc := heap_setCell_same w p 11 _ 40 _ h
theorem LineAt.set12 {w : World} {p : Nat} {t : Value} {pos col first fc : Int} (h : LineAt w p t pos col first fc) : LineAt (w.setCell ⟨p, 12, none⟩ (.int .i64 0)) p t pos col first fc := heap_setCell_same w p 12 _ 40 _ h
theorem LineAt.set13 {w : World} {p : Nat} {t : Value} {pos col first fc : Int} (h : LineAt w p t pos col first fc) : LineAt (w.setCell ⟨p, 13, none⟩ (.int .i64 0)) p t pos col first fc := heap_setCell_same w p 13 _ 40 _ h
theorem line_put {w : World} {L : Nat} {t0 : Value} {p0 q0 r0 s0 : Int} (h : LineAt w L t0 p0 q0 r0 s0) (t : Value) (p q r s : Int) : LineAt (putLine w L t p q r s) L t p q r s :=
  (((((h.set0 t).setPos p).setCol q).setFirst r).setFcol s).set5.set6.set7.set8.set9.set10.set11.set12.set13
theorem ItemAt.set0 {w : World} {p : Nat} {a : Bool} {o : Int} {b : Bool} (h : ItemAt w p a o b) (x : Bool) : ItemAt (w.setCell ⟨p, 0, none⟩ (.bool x)) p x o b := heap_setCell_same w p 0 _ 42 _ h
theorem ItemAt.set1 {w : World} {p : Nat} {a : Bool} {o : Int} {b : Bool} (h : ItemAt w p a o b) (x : Int) : ItemAt (w.setCell ⟨p, 1, none⟩ (.int .i64 x)) p a x b := heap_setCell_same w p 1 _ 42 _ h
theorem ItemAt.set2 {w : World} {p : Nat} {a : Bool} {o : Int} {b : Bool} (h : ItemAt w p a o b) (x : Bool) : ItemAt (w.setCell ⟨p, 2, none⟩ (.bool x)) p a o x := heap_setCell_same w p 2 _ 42 _ h
theorem item_put {w : World} {R : Nat} {a0 : Bool} {o0 : Int} {b0 : Bool} (h : ItemAt w R a0 o0 b0) (a : Bool) (o : Int) (b : Bool) : ItemAt (putItem w R a o b) R a o b := ((h.set0 a).set1 o).set2 b
theorem item_putLine {w : World} {L R : Nat} {a : Bool} {o : Int} {b : Bool} (h : ItemAt w R a o b) (hRL : R ≠ L) (t : Value) (p q r s : Int) : ItemAt (putLine w L t p q r s) R a o b :=
  (((((((((((((h.other hRL _ _).other hRL _ _).other hRL _ _).other hRL _ _).other hRL _ _).other hRL _ _).other hRL _ _).other hRL _ _).other hRL _ _).other hRL _ _).other hRL _ _).other hRL _ _).other hRL _ _).other hRL _ _
theorem line_putItem {w : World} {L R : Nat} {t : Value} {p q r s : Int} (h : LineAt w L t p q r s) (hLR : L ≠ R) (a : Bool) (o : Int) (b : Bool) : LineAt (putItem w R a o b) L t p q r s :=
  ((h.other hLR _ _).other hLR _ _).other hLR _ _
theorem grown_putItem {w w1 : World} {L R : Nat} (h : w.grownBy w1 (some L)) (hR : w.heap.size ≤ R) (a : Bool) (o : Int) (b : Bool) : w.grownBy (putItem w1 R a o b) (some L) :=
  grown_other (grown_other (grown_other h hR _ _) hR _ _) hR _ _
theorem grown_putLine {w w1 : World} {L : Nat} (h : w.grownBy w1 (some L)) (t : Value) (p q r s : Int) : w.grownBy (putLine w1 L t p q r s) (some L) :=
  grown_at (grown_at (grown_at (grown_at (grown_at (grown_at (grown_at (grown_at (grown_at (grown_at (grown_at (grown_at (grown_at (grown_at h _ _) _ _) _ _) _ _) _ _) _ _) _ _) _ _) _ _) _ _) _ _) _ _) _ _) _ _

/-- The world behind an item that was opened: the line is 'after', the item lies in its variable. -/
theorem end_all {w w3 : World} {L : Nat} {t0 : Value} {p0 q0 r0 s0 : Int} {a : Bool} {o : Int} {b : Bool} (hl : LineAt w3 L t0 p0 q0 r0 s0) (hi : ItemAt w3 w.heap.size a o b) (hLR : L ≠ w.heap.size) (hg : w.grownBy w3 (some L)) (t : Value) (p q r s : Int) :
    ∃ w9, w9 = putItem (putLine w3 L t p q r s) w.heap.size a o b ∧ LineAt w9 L t p q r s ∧ w.grownBy w9 (some L) ∧ ItemAt w9 w.heap.size a o b :=
  ⟨_, rfl, line_putItem (line_put hl t p q r s) hLR a o b, grown_putItem (grown_putLine hg t p q r s) (Nat.le_refl _) a o b, item_put (item_putLine hi (fun e => hLR e.symm) t p q r s) a o b⟩

theorem ret_item {x y : Int} (h : x = y) : Ending.returned (.tuple #[.agg #[.bool true, .int .i64 x, .bool false], .bool true]) = .returned (.tuple #[.agg #[.bool true, .int .i64 y, .bool false], .bool true]) := by rw [h]

set_option maxHeartbeats 3200000 in
/-- A blank item. -/
theorem item_blank (L b off n c : Nat) (z : Nat → Int) (w : World) (hc : ∀ j, j < n → w.cell? ⟨b, off + j, none⟩ = some (.int .u8 (z j))) (hn : n ≤ 1048576) (hnc : n ≤ c) (hbL : b ≠ L)
    (pos f d W nx : Nat) (col F X fc0 : Int) (one : Bool) (hL : LineAt w L (.slice (some ⟨b, off, none⟩) n c) pos col (-1) fc0) (hfn : f < n) (hf : SkipEnd z n pos f) (hd : Hid (DigEnd z n f d)) (hW : Hid (markW z n f d = W)) (hO : Hid (markO z n f d = one))
    (hF : Hid (colAt z pos col f = F)) (hX : Hid (colAt z (f + W) (F + W) nx = X)) (hnx : Hid (SkipEnd z n (f + W) nx)) (hc0 : 0 ≤ col) (hc1 : col ≤ 268435456) (hW0 : W ≠ 0) (hW10 : W ≤ 10) (hF0 : 0 ≤ F) (hF1 : F ≤ 280000000) (hX0 : F + W ≤ X) (hX1 : X ≤ 290000000)
    (hcase : nx = n) :
    Calls Try.prog 30 #[.pointer (some ⟨L, 0, none⟩), .bool false] w fun e w' => e = .returned (.tuple #[.agg #[.bool true, .int .i64 (F + W + 1 - col), .bool false], .bool true]) ∧ LineAt w' L (.slice (some ⟨b, off, none⟩) n c) ((f : Int) + W) (F + W) nx X ∧ w.grownBy w' (some L) := by
  have hLw := hL.lt
  have hbw : b < w.heap.size := block_lt_of_cell (hc f hfn)
  have hWb : ((W : Int) == 0) = false := by simp; omega
  have hLR : L ≠ w.heap.size := by omega
  have hnb : ((nx : Int) == (n : Int)) = true := by simp; omega
  have hLR1 : L < w.heap.size + 1 := by omega
  clear hcase
  go_enter Try.func30, Try.ntmps30
  go_wp2_with (first
    | (go_at_call_of 35 L; refine (head_of w L b off n c z hc hn hbL pos f col F fc0 hL hfn hf hF.out hc0 hc1).mono ?_; rintro e w1 ⟨rfl, hH⟩; have HH : Hid (Head w w1 L b off n c z pos col f F) := hH; obtain ⟨l0, l1, l2, l3, l4⟩ := hH.line.cells; obtain ⟨l5, l6, l7, l8, l9, l10, l11, l12, l13⟩ := hH.line.cells14; have hsz := hH.size; clear hH)
    | (go_at_call 36; refine (HH.out.marker d W one hfn hd.out hW.out hO.out).mono ?_; rintro e w2 ⟨rfl, rfl⟩)
    | (go_at_call 35; refine (HH.out.mid hn hLw hbw W nx X hW0 hF0 hF1 hW10 hnx.out hX.out).mono ?_; rintro e w2 ⟨rfl, hM⟩; clear l0 l1 l2 l3 l4 l5 l6 l7 l8 l9 l10 l11 l12 l13 hsz; obtain ⟨l0, l1, l2, l3, l4⟩ := hM.line.cells; obtain ⟨a0, a1, a2, a3, a4⟩ := hM.aft.cells))
  go_quiet (fail)
  have hM3 : Mid w (w2.drewN nq) L b off n c z pos col f F W nx X := hM.drewN nq
  clear l0 l1 l2 l3 l4 a0 a1 a2 a3 a4 hM
  generalize w2.drewN nq = w3 at hM3 ⊢
  obtain ⟨l0, l1, l2, l3, l4⟩ := hM3.line.cells
  obtain ⟨l5, l6, l7, l8, l9, l10, l11, l12, l13⟩ := hM3.line.cells14
  obtain ⟨a0, a1, a2, a3, a4⟩ := hM3.aft.cells
  obtain ⟨a5, a6, a7, a8, a9, a10, a11, a12, a13⟩ := hM3.aft.cells14
  obtain ⟨r0, r1, r2⟩ := hM3.item.cells
  have f0 := hM3.item.free 0
  have f1 := hM3.item.free 1
  have f2 := hM3.item.free 2
  have lf := hM3.line.free
  have HM : Hid (Mid w w3 L b off n c z pos col f F W nx X) := hM3
  clear hM3
  go_wp2
  obtain ⟨w9, hw9, hE1, hE2, hE3⟩ := end_all (line_putItem HM.out.line hLR true (F - col + W + 1) false) (item_put HM.out.item true (F - col + W + 1) false) hLR (grown_putItem HM.out.grown (Nat.le_refl _) true (F - col + W + 1) false) (.slice (some ⟨b, off, none⟩) n c) ((f : Int) + W) (F + W) nx X
  show bodyPost Try.prog Try.f30 _ Exit.ret _ (putItem (putLine (putItem w3 w.heap.size true (F - col + W + 1) false) L (.slice (some ⟨b, off, none⟩) n c) ((f : Int) + W) (F + W) nx X) w.heap.size true (F - col + W + 1) false)
  rw [← hw9]
  obtain ⟨q0, q1, q2⟩ := hE3.cells
  refine bodyPost_ret (v := .tuple #[.agg #[.bool true, .int .i64 (F - col + W + 1), .bool false], .bool true]) (by simp [results, Try.results30, go_sem, q0, q1, q2]) rfl ⟨ret_item (by omega), hE1, hE2⟩
end Go.Proofs.Qxb6601983a
