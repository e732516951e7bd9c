/-
  THE WALKS OF (*line).nonBlank AND (*line).advance (seat b6601983a): a struct behind a pointer that the call itself made.
-/
import Derived.Test.Qxb6601983aListLeaves
import Derived.Deep.QuietTactic
import Derived.BigQuiet
import Derived.Laws.Pointers
namespace Go.Proofs.Qxb6601983a
open Go.RowKit Plain

/-- A line's cells. -/
def lineC (t : Value) (pos col first fc : Int) : Array Value :=
  #[t, .int .i64 pos, .int .i64 col, .int .i64 first, .int .i64 fc, .bool false, .int .i64 0, .int .i64 0, .bool false, .int .i64 0, .int .i64 0, .bool false, .int .i64 0, .int .i64 0]

/-- Block p is a line. -/
def LineAt (w : World) (p : Nat) (t : Value) (pos col first fc : Int) : Prop := w.heap[p]? = some (.cells (lineC t pos col first fc) 40 (0, 0))

/-- Of w, block p alone has turned. -/
structure Only (p : Nat) (w w' : World) : Prop where
  os : w'.os = w.os
  tape : w'.tape = w.tape
  output : w'.output = w.output
  size : w'.heap.size = w.heap.size
  block : ∀ k, k ≠ p → w'.heap[k]? = w.heap[k]?

theorem Only.refl (p : Nat) (w : World) : Only p w w := ⟨rfl, rfl, rfl, rfl, fun _ _ => rfl⟩
theorem Only.trans {p : Nat} {a b c : World} (h : Only p a b) (k : Only p b c) : Only p a c :=
  ⟨k.os.trans h.os, k.tape.trans h.tape, k.output.trans h.output, k.size.trans h.size, fun i hi => (k.block i hi).trans (h.block i hi)⟩
theorem Only.drewN {p : Nat} {a w : World} (h : Only p a w) (m : Nat) : Only p a (w.drewN m) := ⟨h.os, h.tape, h.output, h.size, h.block⟩
theorem Only.setCell {p : Nat} {a w : World} (h : Only p a w) (o : Nat) (v : Value) : Only p a (w.setCell ⟨p, o, none⟩ v) :=
  h.trans ⟨rfl, rfl, rfl, by simp [World.setCell], fun k hk => heap_setCell_other w ⟨p, o, none⟩ k v hk⟩
theorem Only.cell {p : Nat} {w w' : World} (h : Only p w w') {a : Addr} (ha : a.block ≠ p) : w'.cell? a = w.cell? a := World.cell?_of_block (w := w) (h.block a.block ha)

theorem LineAt.cells {w : World} {p : Nat} {t : Value} {pos col first fc : Int} (h : LineAt w p t pos col first fc) :
    w.cell? ⟨p, 0, none⟩ = some t ∧ w.cell? ⟨p, 1, none⟩ = some (.int .i64 pos) ∧ w.cell? ⟨p, 2, none⟩ = some (.int .i64 col) ∧ w.cell? ⟨p, 3, none⟩ = some (.int .i64 first) ∧ w.cell? ⟨p, 4, none⟩ = some (.int .i64 fc) := by
  refine ⟨?_, ?_, ?_, ?_, ?_⟩ <;> (rw [cell_of_row w p _ _ 40 (0, 0) h]; rfl)
theorem LineAt.free {w : World} {p : Nat} {t : Value} {pos col first fc : Int} (h : LineAt w p t pos col first fc) (j : Nat) : w.frozen? ⟨p, j, none⟩ = false := frozen_of_row w p j _ 40 h
theorem LineAt.drewN {w : World} {p : Nat} {t : Value} {pos col first fc : Int} (h : LineAt w p t pos col first fc) (m : Nat) : LineAt (w.drewN m) p t pos col first fc := h
theorem LineAt.setPos {w : World} {p : Nat} {t : Value} {pos col first fc : Int} (h : LineAt w p t pos col first fc) (x : Int) : LineAt (w.setCell ⟨p, 1, none⟩ (.int .i64 x)) p t x col first fc := heap_setCell_same w p 1 _ 40 _ h
theorem LineAt.setCol {w : World} {p : Nat} {t : Value} {pos col first fc : Int} (h : LineAt w p t pos col first fc) (x : Int) : LineAt (w.setCell ⟨p, 2, none⟩ (.int .i64 x)) p t pos x first fc := heap_setCell_same w p 2 _ 40 _ h
theorem LineAt.setFirst {w : World} {p : Nat} {t : Value} {pos col first fc : Int} (h : LineAt w p t pos col first fc) (x : Int) : LineAt (w.setCell ⟨p, 3, none⟩ (.int .i64 x)) p t pos col x fc := heap_setCell_same w p 3 _ 40 _ h
theorem LineAt.setFcol {w : World} {p : Nat} {t : Value} {pos col first fc : Int} (h : LineAt w p t pos col first fc) (x : Int) : LineAt (w.setCell ⟨p, 4, none⟩ (.int .i64 x)) p t pos col first x := heap_setCell_same w p 4 _ 40 _ h

set_option maxHeartbeats 1600000 in
theorem nonblank (p b off n c : Nat) (z : Nat → Int) (w : World) (hc : ∀ j, j < n → w.cell? ⟨b, off + j, none⟩ = some (.int .u8 (z j))) (hn : n ≤ 1048576)
    (pos f : Nat) (col first fc X : Int) (hL : LineAt w p (.slice (some ⟨b, off, none⟩) n c) pos col first fc) (hfirst : first < pos) (hf : SkipEnd z n pos f) (hc0 : 0 ≤ col) (hc1 : col ≤ 300000000) (hX : Hid (colAt z pos col f = X)) :
    Calls Try.prog 35 #[.pointer (some ⟨p, 0, none⟩)] w fun e w' => e = .returned (.tuple #[.int .i64 f, .int .i64 X]) ∧ LineAt w' p (.slice (some ⟨b, off, none⟩) n c) pos col f X ∧ Only p w w' := by
  have h1 := hf.1
  have h2 := hf.2.1
  have hX' := hX.out
  subst hX'
  clear hX
  obtain ⟨l0, l1, l2, l3, l4⟩ := hL.cells
  go_enter Try.func35, Try.ntmps35
  go_wp2
  go_quiet (fail)
  have hO0 : Only p w (w.drewN nq) := (Only.refl p w).drewN nq
  have hL0 : LineAt (w.drewN nq) p (.slice (some ⟨b, off, none⟩) n c) pos col first fc := hL
  have hc0' : ∀ j, j < n → (w.drewN nq).cell? ⟨b, off + j, none⟩ = some (.int .u8 (z j)) := hc
  clear l0 l1 l2 l3 l4
  generalize w.drewN nq = w0 at hO0 hL0 hc0' ⊢
  obtain ⟨l0, l1, l2, l3, l4⟩ := hL0.cells
  go_wp2
  go_quiet (fail)
  have hO1 : Only p w (w0.drewN nq) := hO0.drewN nq
  have hL1 : LineAt (w0.drewN nq) p (.slice (some ⟨b, off, none⟩) n c) pos col first fc := hL0
  have hcw : ∀ j, j < n → (w0.drewN nq).cell? ⟨b, off + j, none⟩ = some (.int .u8 (z j)) := hc0'
  clear l0 l1 l2 l3 l4 hO0 hL0 hc0'
  generalize w0.drewN nq = w1 at hO1 hL1 hcw ⊢
  clear hc hL
  have HL : Hid (LineAt w1 p (.slice (some ⟨b, off, none⟩) n c) pos col first fc) := hL1
  have HO : Hid (Only p w w1) := hO1
  obtain ⟨l0, l1, l2, l3, l4⟩ := hL1.cells
  have z3 := hL1.free 3
  have z4 := hL1.free 4
  clear hL1 hO1
  go_wp2
  go_loop [4, 5] (fun j d => ∃ k : Nat, pos ≤ k ∧ k ≤ f ∧ j = .int .i64 k ∧ d = .int .i64 (colAt z pos col k)) (fun j _ => n - (intOf j).toNat)
  case atStart => exact ⟨pos, by omega, by omega, rfl, by rw [colAt_self]⟩
  case round =>
    obtain ⟨k, hk1, hk2, rfl, rfl⟩ := hrel
    have hb := colAt_bd z pos col k hk1
    have hs := colAt_succ z pos col k hk1
    have HS : Hid (colAt z pos col (k + 1) = stepc (colAt z pos col k) (z k)) := hs
    clear hs
    by_cases hlt : k < n
    · have hck := hcw k hlt
      by_cases hkf : k < f
      · have hbl := (skip_more hf hk1 hkf).2
        go_wp2_with (first
          | (go_at_call 39; refine (blank_any _ _).mono ?_; rintro e w' ⟨rfl, rfl⟩)
          | (go_at_call 40; refine (next_any _ _ _ (by omega) (by omega)).mono ?_; rintro e w' ⟨rfl, rfl⟩))
        go_round
        case rel => exact ⟨k + 1, by omega, by omega, by go_num, by rw [HS.out]⟩
        case measure => simp [intOf]; omega
      · obtain rfl : k = f := by omega
        have hbl := hf.2.2.2 hlt
        go_wp2_with (go_at_call 39; refine (blank_any _ _).mono ?_; rintro e w' ⟨rfl, rfl⟩)
        go_quiet (fail)
        go_wp2
        go_ret2
        exact ⟨rfl, ((HL.out.setFirst _).setFcol _).drewN _, ((HO.out.setCell _ _).setCell _ _).drewN _⟩
    · obtain rfl : k = f := by omega
      go_wp2
      go_quiet (fail)
      go_wp2
      go_ret2
      exact ⟨rfl, ((HL.out.setFirst _).setFcol _).drewN _, ((HO.out.setCell _ _).setCell _ _).drewN _⟩

set_option maxHeartbeats 1600000 in
/-- advance by the columns that lead just to place nx. -/
theorem advance_to (p b off n c : Nat) (z : Nat → Int) (w : World) (hc : ∀ j, j < n → w.cell? ⟨b, off + j, none⟩ = some (.int .u8 (z j))) (hbp : b ≠ p)
    (pos nx : Nat) (col first fc X : Int) (hL : LineAt w p (.slice (some ⟨b, off, none⟩) n c) pos col first fc) (h1 : pos ≤ nx) (h2 : nx ≤ n) (hc0 : 0 ≤ col) (hX1 : X ≤ 300000000) (hX : Hid (colAt z pos col nx = X)) (hn : n ≤ 1048576) (s : Int) (hs : Hid (s = X - col)) :
    Calls Try.prog 37 #[.pointer (some ⟨p, 0, none⟩), .int .i64 s] w fun e w' => e = .returned (.tuple #[]) ∧ LineAt w' p (.slice (some ⟨b, off, none⟩) n c) nx X first fc ∧ Only p w w' := by
  go_enter Try.func37, Try.ntmps37
  go_wp2
  go_loopw [1, 4] (fun m _ wr => ∃ (k : Nat) (C y : Int), pos ≤ k ∧ k ≤ nx ∧ colAt z pos col k = C ∧ m = .int .i64 y ∧ y = X - C ∧ LineAt wr p (.slice (some ⟨b, off, none⟩) n c) k C first fc ∧ Only p w wr) (fun m _ _ => (intOf m).toNat)
  case atStart => exact ⟨pos, col, s, by omega, by omega, colAt_self _ _ _, rfl, hs.out, hL, Only.refl _ _⟩
  case round =>
    obtain ⟨k, C, y, hk1, hk2, hC, rfl, hy, hLr, hOr⟩ := hrel
    have hcb := colAt_bd z pos col k hk1
    have hcm := colAt_mono z pos col k nx hk1 hk2
    have hcs := colAt_succ z pos col k hk1
    rw [hC] at hcb hcm hcs
    rw [hX.out] at hcm
    have hcr : ∀ j, j < n → wr.cell? ⟨b, off + j, none⟩ = some (.int .u8 (z j)) := fun j hj => (hOr.cell (a := ⟨b, off + j, none⟩) hbp).trans (hc j hj)
    obtain ⟨l0, l1, l2, l3, l4⟩ := hLr.cells
    by_cases hk : k < nx
    · have hkn : k < n := by omega
      have hck := hcr k hkn
      have hst := stepc_bd C (z k)
      have hE : stepc C (z k) ≤ X := by
        have h3 := colAt_mono z pos col (k + 1) nx (by omega) (by omega)
        rw [hcs, hX.out] at h3
        omega
      have HC : Hid (colAt z pos col (k + 1) = stepc C (z k)) := hcs
      have HY : Hid (y = X - C) := hy
      have hy0 : 0 < y := by omega
      have hy1 : y ≤ 300000000 := by omega
      have hyE : stepc C (z k) - C ≤ y := by omega
      have hnext : Hid _ := fun wx => next_any C (z k) wx (by omega) (by omega)
      clear hcs hC hy
      go_wp2
      go_quiet (fail)
      have hO1 : Only p w (wr.drewN nq) := hOr.drewN nq
      have hL1 : LineAt (wr.drewN nq) p (.slice (some ⟨b, off, none⟩) n c) k C first fc := hLr
      have hck1 : (wr.drewN nq).cell? ⟨b, off + k, none⟩ = some (.int .u8 (z k)) := hck
      clear l0 l1 l2 l3 l4 hOr hLr hck hcr
      generalize wr.drewN nq = w1 at hO1 hL1 hck1 ⊢
      obtain ⟨l0, l1, l2, l3, l4⟩ := hL1.cells
      go_wp2
      go_quiet ((go_at_call 40; exact Calls.quiet_of_same (hnext.out _)))
      have hO2 : Only p w (w1.drewN nq) := hO1.drewN nq
      have hL2 : LineAt (w1.drewN nq) p (.slice (some ⟨b, off, none⟩) n c) k C first fc := hL1
      clear l0 l1 l2 l3 l4 hO1 hL1 hck1
      generalize w1.drewN nq = w2 at hO2 hL2 ⊢
      obtain ⟨l0, l1, l2, l3, l4⟩ := hL2.cells
      have z1 := hL2.free 1
      have z2 := hL2.free 2
      have HL : Hid (LineAt w2 p (.slice (some ⟨b, off, none⟩) n c) k C first fc) := hL2
      have HO : Hid (Only p w w2) := hO2
      clear hL2 hO2
      generalize hEE : stepc C (z k) = E at *
      clear hEE
      go_wp2
      go_roundw
      case rel => exact ⟨k + 1, E, _, by omega, by omega, HC.out, rfl, by have := HY.out; omega, (HL.out.setPos _).setCol _, (HO.out.setCell _ _).setCell _ _⟩
      case measure => simp [intOf]; omega
    · obtain rfl : k = nx := by omega
      have hCX : C = X := hC.symm.trans hX.out
      subst hCX
      obtain rfl : y = 0 := by omega
      clear hcs hcm hcb hC hy
      go_wp2
      go_quiet (fail)
      go_wp2
      go_end0
      exact ⟨rfl, hLr.drewN _, hOr.drewN _⟩

set_option maxHeartbeats 1600000 in
/-- advance by one column inside a tab. -/
theorem advance_in (p b off n c : Nat) (z : Nat → Int) (w : World) (hc : ∀ j, j < n → w.cell? ⟨b, off + j, none⟩ = some (.int .u8 (z j)))
    (pos : Nat) (col first fc : Int) (hL : LineAt w p (.slice (some ⟨b, off, none⟩) n c) pos col first fc) (h1 : pos < n) (hc0 : 0 ≤ col) (hc1 : col ≤ 300000000) (hs : 1 < stepc col (z pos) - col) :
    Calls Try.prog 37 #[.pointer (some ⟨p, 0, none⟩), .int .i64 1] w fun e w' => e = .returned (.tuple #[]) ∧ LineAt w' p (.slice (some ⟨b, off, none⟩) n c) pos (col + 1) first fc ∧ Only p w w' := by
  have hnext : Hid _ := fun wx => next_any col (z pos) wx (by omega) (by omega)
  have hck := hc pos h1
  have hst := stepc_bd col (z pos)
  obtain ⟨l0, l1, l2, l3, l4⟩ := hL.cells
  go_enter Try.func37, Try.ntmps37
  go_wp2
  refine wp_loop_rounds 1 ?_; rw [rounds_succ]
  go_wp2
  go_quiet (fail)
  have hO1 : Only p w (w.drewN nq) := (Only.refl p w).drewN nq
  have hL1 : LineAt (w.drewN nq) p (.slice (some ⟨b, off, none⟩) n c) pos col first fc := hL
  have hck1 : (w.drewN nq).cell? ⟨b, off + pos, none⟩ = some (.int .u8 (z pos)) := hck
  clear l0 l1 l2 l3 l4 hL hck hc
  generalize w.drewN nq = w1 at hO1 hL1 hck1 ⊢
  obtain ⟨l0, l1, l2, l3, l4⟩ := hL1.cells
  go_wp2
  go_quiet ((go_at_call 40; exact Calls.quiet_of_same (hnext.out _)))
  have hO2 : Only p w (w1.drewN nq) := hO1.drewN nq
  have hL2 : LineAt (w1.drewN nq) p (.slice (some ⟨b, off, none⟩) n c) pos col first fc := hL1
  clear l0 l1 l2 l3 l4 hO1 hL1 hck1
  generalize w1.drewN nq = w2 at hO2 hL2 ⊢
  obtain ⟨l0, l1, l2, l3, l4⟩ := hL2.cells
  have z2 := hL2.free 2
  have HL : Hid (LineAt w2 p (.slice (some ⟨b, off, none⟩) n c) pos col first fc) := hL2
  have HO : Hid (Only p w w2) := hO2
  clear hL2 hO2
  generalize hEE : stepc col (z pos) = E at *
  clear hEE
  go_wp2
  try simp only [Exit.inBlock, Exit.then]
  refine bodyPost_ret (v := .tuple #[]) (by simp [results, Try.results37, go_sem]) rfl ?_
  exact ⟨rfl, HL.out.setCol _, HO.out.setCell _ _⟩
end Go.Proofs.Qxb6601983a
