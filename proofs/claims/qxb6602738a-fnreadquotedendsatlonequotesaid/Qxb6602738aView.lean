/-
  HOW THE INPUT OF FnProjectPicksColumns LIES IN MEMORY (seat b6602738a): rows of structs of three cells.
-/
import Derived.Test.Qxb6602738aProg
import Derived.WalkKit
import Derived.ProofKit
import Derived.WalkSpells
import Derived.Outline
import Derived.Below
import Derived.OwnWalk
import Derived.Deep.Slices
import Derived.Deep.Strs
namespace Go.Proofs.Qxb6602738a
open Go.RowKit Go.Deep Go.ChangeShapes Go.WideShapes Go.ChangeAt

/-- One value: three cells. -/
def ValAt (w : World) (b o : Nat) (k i : Int) (s : ByteArray) : Prop := w.cell? ⟨b, o, none⟩ = some (.int .u8 k) ∧ w.cell? ⟨b, o + 1, none⟩ = some (.int .i64 i) ∧ w.cell? ⟨b, o + 2, none⟩ = some (.string s)

/-- One row of l values. -/
def RowAt (w : World) (a : Option Addr) (l : Nat) (K I : Nat → Int) (S : Nat → ByteArray) : Prop := 0 < l → ∃ b o, a = some ⟨b, o, none⟩ ∧ ∀ j, j < l → ValAt w b (o + j * 3) (K j) (I j) (S j)

/-- n rows. -/
def RowsAt (w : World) (a : Option Addr) (n : Nat) (A : Nat → Option Addr) (L C : Nat → Nat) (K I : Nat → Nat → Int) (S : Nat → Nat → ByteArray) : Prop :=
  0 < n → ∃ b o, a = some ⟨b, o, none⟩ ∧ ∀ i, i < n → w.cell? ⟨b, o + i, none⟩ = some (.slice (A i) (L i) (C i)) ∧ RowAt w (A i) (L i) (K i) (I i) (S i)

/-- What fits of the rows' numbers. -/
structure Fits (n : Nat) (A : Nat → Option Addr) (L C : Nat → Nat) (S : Nat → Nat → ByteArray) : Prop where
  nil : ∀ i, i < n → A i = none → L i = 0 ∧ C i = 0
  le : ∀ i, i < n → L i ≤ maxLen
  str : ∀ i j, i < n → j < L i → (S i j).size ≤ maxLen

theorem cells39 : Try.prog.cellsOf 39 = 1 := by kernel_rfl
theorem cells38 : Try.prog.cellsOf 38 = 3 := by kernel_rfl
theorem cells5 : Try.prog.cellsOf 5 = 1 := by kernel_rfl
theorem cells2 : Try.prog.cellsOf 2 = 1 := by kernel_rfl
theorem cells9 : Try.prog.cellsOf 9 = 1 := by kernel_rfl

theorem open_val {H : Type} {enc : TypeId × Value → H} {w : World} {n : Nat} {cs : List Value} {x : DataW H × List MemPlace} (h : DataW.trod enc Try.prog w 0 (fun _ => true) true n 38 cs = some x) :
    ∃ (k i : Int) (s : ByteArray), cs = [.int .u8 k, .int .i64 i, .string s] ∧ s.size ≤ maxLen := by
  obtain ⟨y0, y1, y2, m, _, hl, h0, h1, h2⟩ := trod_struct3 Try.underlying38 h
  rw [cells38] at hl
  match cs, hl with
  | [c0, c1, c2], _ =>
    simp only [cells5, cells2, cells9, List.drop_zero, List.drop_succ_cons, List.take_succ_cons, List.take_zero] at h0 h1 h2
    obtain ⟨k, e0, _, _⟩ := DataW.trod_int Try.underlying5 h0
    obtain ⟨i, e1, _, _⟩ := DataW.trod_int Try.underlying2 h1
    obtain ⟨s, e2, _, hs⟩ := DataW.trod_string Try.underlying9 h2
    simp at e0 e1 e2
    exact ⟨k, i, s, by rw [e0, e1, e2], hs⟩

theorem spot_of {w : World} {x : Addr} {v : Value} (h : w.cell? x = some v) : ∃ b o, x = ⟨b, o, none⟩ := by
  obtain ⟨b, o, spot⟩ := x
  have hspot : spot = none := by simpa using World.cell?_spot h
  subst hspot
  exact ⟨b, o, rfl⟩

theorem open_row {H : Type} {enc : TypeId × Value → H} {w : World} {n : Nat} {v : Value} {x : DataW H × List MemPlace} (h : DataW.trod enc Try.prog w 0 (fun _ => true) true n 39 [v] = some x) :
    ∃ (q : Option Addr × Nat × Nat) (K I : Nat → Int) (S : Nat → ByteArray), v = .slice q.1 q.2.1 q.2.2 ∧ RowAt w q.1 q.2.1 K I S ∧ (q.1 = none → q.2.1 = 0 ∧ q.2.2 = 0) ∧ q.2.1 ≤ maxLen ∧ ∀ j, j < q.2.1 → (S j).size ≤ maxLen := by
  rcases open_slice Try.underlying39 h with ⟨hcs, _⟩ | ⟨a, len, cap, m, nf, D, Pl, hcs, _, hl, hm, hmm, _, hx⟩
  · simp at hcs
    exact ⟨(none, 0, 0), fun _ => 0, fun _ => 0, fun _ => ByteArray.empty, hcs, fun h => by simp at h, fun _ => ⟨rfl, rfl⟩, by simp [maxLen], fun j h => by simp at h⟩
  · simp at hcs
    have hlm : len ≤ m := by rw [hmm]; simp; exact hl
    rw [cells38] at hx
    obtain ⟨f, hf⟩ := choose_lt (α := Int × Int × ByteArray) (p := fun i q => w.cells? 0 (a.add (i * 3)) 3 = some [.int .u8 q.1, .int .i64 q.2.1, .string q.2.2] ∧ q.2.2.size ≤ maxLen) (fun i hi => by
      obtain ⟨cs', h1, h2⟩ := hx i hi
      obtain ⟨k, i', s, rfl, hs⟩ := open_val h2
      exact ⟨(k, i', s), h1, hs⟩)
    refine ⟨(some a, len, cap), fun j => (f j).1, fun j => (f j).2.1, fun j => (f j).2.2, hcs, fun hlen => ?_, fun h => (by cases h), by simp only; omega, fun j hj => (hf j (by simp only at hj; omega)).2⟩
    simp only at hlen
    have h0 := (World.cells?_some (hf 0 (by omega)).1).2.2 0 (by omega)
    simp [Addr.add] at h0
    obtain ⟨b, o, rfl⟩ := spot_of h0
    refine ⟨b, o, rfl, fun j hj => ?_⟩
    simp only at hj
    have hc := (World.cells?_some (hf j (by omega)).1).2.2
    have c0 := hc 0 (by omega)
    have c1 := hc 1 (by omega)
    have c2 := hc 2 (by omega)
    simp only [add_add] at c0 c1 c2
    rw [add_plain] at c0 c1 c2
    exact ⟨by simpa using c0, by simpa [Nat.add_assoc] using c1, by simpa [Nat.add_assoc] using c2⟩

theorem open_rows {H : Type} {enc : TypeId × Value → H} {w : World} {fuel : Nat} {ao : Option Addr} {n c : Nat} {x : DataW H × List MemPlace} (h : DataW.trod enc Try.prog w 0 (fun _ => true) true fuel 22 [.slice ao n c] = some x) :
    ∃ A L C K I S, RowsAt w ao n A L C K I S ∧ Fits n A L C S ∧ (ao = none → n = 0 ∧ c = 0) ∧ n ≤ maxLen := by
  rcases open_slice1 Try.underlying22 cells39 h with ⟨hcs, _⟩ | ⟨a, len, cap, m, nf, V, D, Pl, hcs, _, hl, hm, hmm, _, hx⟩
  · simp at hcs
    obtain ⟨rfl, rfl, rfl⟩ := hcs
    exact ⟨fun _ => none, fun _ => 0, fun _ => 0, fun _ _ => 0, fun _ _ => 0, fun _ _ => ByteArray.empty, fun h => by omega, ⟨fun i h => by omega, fun i h => by omega, fun i j h => by omega⟩, fun _ => ⟨rfl, rfl⟩, by simp [maxLen]⟩
  · simp at hcs
    obtain ⟨rfl, rfl, rfl⟩ := hcs
    have hlm : n ≤ m := by rw [hmm]; simp; exact hl
    obtain ⟨f, hf⟩ := choose_lt (α := (Option Addr × Nat × Nat) × (Nat → Int) × (Nat → Int) × (Nat → ByteArray)) (p := fun i q => w.cell? (a.add i) = some (.slice q.1.1 q.1.2.1 q.1.2.2) ∧ RowAt w q.1.1 q.1.2.1 q.2.1 q.2.2.1 q.2.2.2 ∧ (q.1.1 = none → q.1.2.1 = 0 ∧ q.1.2.2 = 0) ∧ q.1.2.1 ≤ maxLen ∧ ∀ j, j < q.1.2.1 → (q.2.2.2 j).size ≤ maxLen) (fun i hi => by
      obtain ⟨h1, h2⟩ := hx i hi
      obtain ⟨q, K, I, S, e, g1, g2, g3, g4⟩ := open_row h2
      exact ⟨(q, K, I, S), by rw [h1, e], g1, g2, g3, g4⟩)
    refine ⟨fun i => (f i).1.1, fun i => (f i).1.2.1, fun i => (f i).1.2.2, fun i => (f i).2.1, fun i => (f i).2.2.1, fun i => (f i).2.2.2, fun hn => ?_, ⟨fun i hi => (hf i (by omega)).2.2.1, fun i hi => (hf i (by omega)).2.2.2.1, fun i j hi hj => (hf i (by omega)).2.2.2.2 j hj⟩, fun h => (by cases h), by omega⟩
    have h0 := (hf 0 (by omega)).1
    simp [Addr.add] at h0
    obtain ⟨b, o, rfl⟩ := spot_of h0
    exact ⟨b, o, rfl, fun i hi => ⟨by rw [← add_plain]; exact (hf i (by omega)).1, (hf i (by omega)).2.1⟩⟩
end Go.Proofs.Qxb6602738a
