/-
  toRowsSqlB1 (seat b6602738a): fresh rows, a block a row.
-/
import Derived.Test.Qxb6602738aBytes
namespace Go.Proofs.Qxb6602738a
open Go.RowKit Go.Deep

theorem Try.info32 : (Try.prog.info? 32).map (fun i => (i.zero, i.size, i.bytes)) = some (some (.slice none 0 0), 1, 24) := by kernel_rfl
theorem Try.info36 : (Try.prog.info? 36).map (fun i => (i.zero, i.size, i.bytes)) = some (some (.agg #[.int .u8 0, .int .i64 0, .string ByteArray.empty]), 3, 32) := by kernel_rfl

/-- The row under way: block G, l values, the first m filled. -/
def FillV (G l : Nat) (K I : Nat → Int) (S : Nat → ByteArray) (w : World) (m : Nat) : Prop :=
  ∃ xs : List Value, w.ownsRow G 36 3 (.slice (some ⟨G, 0, none⟩) l l) l xs ∧ xs.length = l * 3 ∧ ∀ j, j < m → xs[j * 3]? = some (.int .u8 (K j)) ∧ xs[j * 3 + 1]? = some (.int .i64 (I j)) ∧ xs[j * 3 + 2]? = some (.string (S j))

theorem fillV_cell {G l : Nat} {K I : Nat → Int} {S : Nat → ByteArray} {w : World} {m : Nat} (h : FillV G l K I S w m) (j : Nat) (hj : j < l * 3) : ∃ v, w.cell? ⟨G, j, none⟩ = some v := by
  obtain ⟨xs, ho, hl, _⟩ := h
  exact ⟨xs[j]'(by omega), by rw [ho.cellAt j hj]; simp [hl, hj]⟩
theorem fillV_free {G l : Nat} {K I : Nat → Int} {S : Nat → ByteArray} {w : World} {m : Nat} (h : FillV G l K I S w m) (j : Nat) : w.frozen? ⟨G, j, none⟩ = false := by
  obtain ⟨xs, ho, hl, _⟩ := h
  exact ho.frozenAt j

/-- One value stored. -/
theorem fillV_step {G l : Nat} {K I : Nat → Int} {S : Nat → ByteArray} {w : World} {m : Nat} (h : FillV G l K I S w m) (hm : m < l) :
    FillV G l K I S (((w.setCell ⟨G, m * 3, none⟩ (.int .u8 (K m))).setCell ⟨G, m * 3 + 1, none⟩ (.int .i64 (I m))).setCell ⟨G, m * 3 + 2, none⟩ (.string (S m))) (m + 1) := by
  obtain ⟨xs, ho, hl, hx⟩ := h
  refine ⟨_, (((ho.stored (m * 3) _).1.stored (m * 3 + 1) _).1.stored (m * 3 + 2) _).1, by simpa using hl, fun j hj => ?_⟩
  by_cases e : j = m
  · subst e
    simp [List.getElem?_set, hl]
    omega
  · have := hx j (by omega)
    rw [List.getElem?_set_ne (by omega), List.getElem?_set_ne (by omega), List.getElem?_set_ne (by omega), List.getElem?_set_ne (by omega), List.getElem?_set_ne (by omega), List.getElem?_set_ne (by omega), List.getElem?_set_ne (by omega), List.getElem?_set_ne (by omega), List.getElem?_set_ne (by omega)]
    exact this

theorem fillV_row {G l : Nat} {K I : Nat → Int} {S : Nat → ByteArray} {w : World} (h : FillV G l K I S w l) : RowAt w (some ⟨G, 0, none⟩) l K I S := by
  obtain ⟨xs, ho, hl, hx⟩ := h
  intro _
  refine ⟨G, 0, rfl, fun j hj => ?_⟩
  obtain ⟨h0, h1, h2⟩ := hx j hj
  refine ⟨?_, ?_, ?_⟩
  · rw [Nat.zero_add, ho.cellAt _ (by omega)]; exact h0
  · rw [Nat.zero_add, ho.cellAt _ (by omega)]; exact h1
  · rw [Nat.zero_add, ho.cellAt _ (by omega)]; exact h2

/-- A row lies below block B: it is kept wherever B is. -/
theorem row_kept {w w' : World} {a : Option Addr} {l : Nat} {K I : Nat → Int} {S : Nat → ByteArray} (h : RowAt w a l K I S) (hb : Below w.heap.size w w') : RowAt w' a l K I S := by
  intro hl
  obtain ⟨b, o, rfl, hv⟩ := h hl
  refine ⟨b, o, rfl, fun j hj => ?_⟩
  obtain ⟨h0, h1, h2⟩ := hv j hj
  exact ⟨(hb.cell (block_lt_of_cell h0)).trans h0, (hb.cell (block_lt_of_cell h1)).trans h1, (hb.cell (block_lt_of_cell h2)).trans h2⟩

/-- A store into a block that the row does not lie in. -/
theorem row_other {w : World} {a : Option Addr} {l : Nat} {K I : Nat → Int} {S : Nat → ByteArray} (h : RowAt w a l K I S) (G k : Nat) (v : Value) (hne : ∀ b o, a = some ⟨b, o, none⟩ → b ≠ G) : RowAt (w.setCell ⟨G, k, none⟩ v) a l K I S := by
  intro hl
  obtain ⟨b, o, rfl, hv⟩ := h hl
  have hb := hne b o rfl
  have hk : ∀ q, (w.setCell ⟨G, k, none⟩ v).cell? ⟨b, q, none⟩ = w.cell? ⟨b, q, none⟩ := fun q => World.cell?_of_block (a := ⟨b, q, none⟩) (heap_setCell_other w ⟨G, k, none⟩ b v hb)
  exact ⟨b, o, rfl, fun j hj => by obtain ⟨h0, h1, h2⟩ := hv j hj; exact ⟨(hk _).trans h0, (hk _).trans h1, (hk _).trans h2⟩⟩

/-- The outer row under way: block B, n rows, the first k filled. -/
structure Out (B n : Nat) (A' : Nat → Option Addr) (L C' : Nat → Nat) (K I : Nat → Nat → Int) (S : Nat → Nat → ByteArray) (w : World) (k : Nat) : Prop where
  own : ∃ xs : List Value, w.ownsRow B 32 1 (.slice (some ⟨B, 0, none⟩) n n) n xs ∧ xs.length = n ∧ (∀ i, i < k → xs[i]? = some (.slice (A' i) (L i) (C' i))) ∧ ∀ i, k ≤ i → i < n → xs[i]? = some (.slice none 0 0)
  rows : ∀ i, i < k → RowAt w (A' i) (L i) (K i) (I i) (S i)
  apart : ∀ i b o, i < k → A' i = some ⟨b, o, none⟩ → b ≠ B

theorem Out.cell {B n : Nat} {A' : Nat → Option Addr} {L C' : Nat → Nat} {K I : Nat → Nat → Int} {S : Nat → Nat → ByteArray} {w : World} {k : Nat} (h : Out B n A' L C' K I S w k) (j : Nat) (hj : j < n) : ∃ v, w.cell? ⟨B, j, none⟩ = some v := by
  obtain ⟨xs, ho, hl, _⟩ := h.own
  exact ⟨xs[j]'(by omega), by rw [ho.cellAt j (by omega)]; simp [hl, hj]⟩
theorem Out.free {B n : Nat} {A' : Nat → Option Addr} {L C' : Nat → Nat} {K I : Nat → Nat → Int} {S : Nat → Nat → ByteArray} {w : World} {k : Nat} (h : Out B n A' L C' K I S w k) (j : Nat) : w.frozen? ⟨B, j, none⟩ = false := by
  obtain ⟨xs, ho, hl, _⟩ := h.own
  exact ho.frozenAt j
theorem Out.lt {B n : Nat} {A' : Nat → Option Addr} {L C' : Nat → Nat} {K I : Nat → Nat → Int} {S : Nat → Nat → ByteArray} {w : World} {k : Nat} (h : Out B n A' L C' K I S w k) : B < w.heap.size := by
  obtain ⟨xs, ho, hl, _⟩ := h.own
  rcases ho.2 with ⟨h', _⟩ | ⟨g', cap', cur, h', _, hg, _⟩
  · simp at h'
  · simp only [Value.slice.injEq, Option.some.injEq, Addr.mk.injEq, and_true, true_and] at h'
    obtain ⟨rfl, rfl⟩ := h'
    rcases Nat.lt_or_ge B w.heap.size with h' | h'
    · exact h'
    · rw [Array.getElem?_eq_none h'] at hg; cases hg

theorem grown_none {w w' : World} (hb : Below w.heap.size w w') : w.grownBy w' none := ⟨hb.os, hb.tape, hb.output, hb.size, fun k hk _ => hb.block k hk⟩

theorem Out.kept {B n : Nat} {A' : Nat → Option Addr} {L C' : Nat → Nat} {K I : Nat → Nat → Int} {S : Nat → Nat → ByteArray} {w w' : World} {k : Nat} (h : Out B n A' L C' K I S w k) (hb : Below w.heap.size w w') : Out B n A' L C' K I S w' k := by
  obtain ⟨xs, ho, hl, h1, h2⟩ := h.own
  exact ⟨⟨xs, ho.kept (grown_none hb) (.inr (by simp [Value.ownBlock])), hl, h1, h2⟩, fun i hi => row_kept (h.rows i hi) hb, h.apart⟩

theorem Out.store {B n : Nat} {A' : Nat → Option Addr} {L C' : Nat → Nat} {K I : Nat → Nat → Int} {S : Nat → Nat → ByteArray} {w : World} {k : Nat} (h : Out B n A' L C' K I S w k) (hk : k < n) (g cc : Nat) (hg : g ≠ B) (hr : RowAt w (some ⟨g, 0, none⟩) (L k) (K k) (I k) (S k)) :
    ∃ A2 C2, Out B n A2 L C2 K I S (w.setCell ⟨B, k, none⟩ (.slice (some ⟨g, 0, none⟩) (L k) cc)) (k + 1) := by
  obtain ⟨xs, ho, hl, h1, h2⟩ := h.own
  refine ⟨fun i => if i = k then some ⟨g, 0, none⟩ else A' i, fun i => if i = k then cc else C' i, ⟨⟨xs.set k (.slice (some ⟨g, 0, none⟩) (L k) cc), (ho.stored k _).1, by simpa using hl, fun i hi => ?_, fun i hi hn => ?_⟩, fun i hi => ?_, fun i b o hi he => ?_⟩⟩
  · by_cases e : i = k
    · subst e; simp [hl, hk]
    · rw [List.getElem?_set_ne (by omega)]; simp only [if_neg e]; exact h1 i (by omega)
  · rw [List.getElem?_set_ne (by omega)]; exact h2 i (by omega) hn
  · by_cases e : i = k
    · subst e; simp only [if_true]; exact row_other hr B i _ (fun b o hh => by simp at hh; omega)
    · simp only [if_neg e]; exact row_other (h.rows i (by omega)) B k _ (fun b o hh => h.apart i b o (by omega) hh)
  · by_cases e : i = k
    · subst e; simp at he; omega
    · simp only [if_neg e] at he; exact h.apart i b o (by omega) he

theorem Out.skip {B n : Nat} {A' : Nat → Option Addr} {L C' : Nat → Nat} {K I : Nat → Nat → Int} {S : Nat → Nat → ByteArray} {w : World} {k : Nat} (h : Out B n A' L C' K I S w k) (hk : k < n) (h0 : L k = 0) :
    ∃ A2 C2, Out B n A2 L C2 K I S w (k + 1) := by
  obtain ⟨xs, ho, hl, h1, h2⟩ := h.own
  refine ⟨fun i => if i = k then none else A' i, fun i => if i = k then 0 else C' i, ⟨⟨xs, ho, hl, fun i hi => ?_, fun i hi hn => h2 i (by omega) hn⟩, fun i hi => ?_, fun i b o hi he => ?_⟩⟩
  · by_cases e : i = k
    · subst e; simp only [if_true, h0]; exact h2 i (Nat.le_refl _) hk
    · simp only [if_neg e]; exact h1 i (by omega)
  · by_cases e : i = k
    · subst e; intro hh; omega
    · simp only [if_neg e]; exact h.rows i (by omega)
  · by_cases e : i = k
    · subst e; simp at he
    · simp only [if_neg e] at he; exact h.apart i b o (by omega) he

theorem fillV_kept {G l : Nat} {K I : Nat → Int} {S : Nat → ByteArray} {w w' : World} {m : Nat} (h : FillV G l K I S w m) (hb : Below w.heap.size w w') : FillV G l K I S w' m := by
  obtain ⟨xs, ho, hl, hx⟩ := h
  exact ⟨xs, ho.kept (grown_none hb) (.inr (by simp [Value.ownBlock])), hl, hx⟩
theorem fillV_lt {G l : Nat} {K I : Nat → Int} {S : Nat → ByteArray} {w : World} {m : Nat} (h : FillV G l K I S w m) : G < w.heap.size := by
  obtain ⟨xs, ho, hl, _⟩ := h
  rcases ho.2 with ⟨h', _⟩ | ⟨g', cap', cur, h', _, hg, _⟩
  · simp at h'
  · simp only [Value.slice.injEq, Option.some.injEq, Addr.mk.injEq, and_true, true_and] at h'
    obtain ⟨rfl, rfl⟩ := h'
    rcases Nat.lt_or_ge G w.heap.size with h' | h'
    · exact h'
    · rw [Array.getElem?_eq_none h'] at hg; cases hg

set_option maxHeartbeats 3200000 in
theorem torows_some (x : Addr) (n c : Nat) (A : Nat → Option Addr) (L C : Nat → Nat) (K I : Nat → Nat → Int) (S : Nat → Nat → ByteArray) (w : World) (hR : RowsAt w (some x) n A L C K I S) (hF : Fits n A L C S) (hn : 24 * n ≤ 1048576) (hL : ∀ i, i < n → 32 * L i ≤ 1048576) :
    Calls Try.prog 15 #[.slice (some x) n c] w fun e w' => e = .returned (.slice (some ⟨w.heap.size, 0, none⟩) n n) ∧ Below w.heap.size w w' ∧ ∃ A' C', Out w.heap.size n A' L C' K I S w' n := by
  obtain ⟨i0, hi, hz0, hz1, hz2⟩ := info_parts Try.info32
  obtain ⟨i1, gi, gz0, gz1, gz2⟩ := info_parts Try.info36
  have hnil := fun wx => Lib.run_eql_slice_nil (P := Try.prog) wx 22 39 (some x) n c 0 0 Try.underlying22
  go_enter Try.func15, Try.ntmps15
  go_wp2_with (at_make; refine wpList_make_full _ rfl _ _ 28 rfl w.heap.size 32 i0 (.slice none 0 0) 1 Try.underlying28 hi hz0 hz1 _ _ _ _ n rfl rfl rfl rfl ?bytes ?maxl ?base ?_)
  case bytes => rw [hz2]; omega
  case maxl => unfold maxLen; omega
  case base => exact Nat.le_refl _
  intro w1 hown hgrow
  have hb1 : Below w.heap.size w w1 := (Below.refl _ _).grown hgrow (Nat.le_refl _) (fun k h => by cases h)
  have ho1 : Out w.heap.size n A L C K I S w1 0 := ⟨⟨_, hown, by simpa using hown.1, fun i h => by omega, fun i _ h => by rw [toList_madeCells_one]; simp [h]⟩, fun i h => by omega, fun i b o h => by omega⟩
  clear hown hgrow hnil
  go_wp2
  go_loopw [4, 5, 6, 7] (fun i _ _ _ wr => ∃ (k : Nat) (A' : Nat → Option Addr) (C' : Nat → Nat), k ≤ n ∧ i = .int .i64 k ∧ Below w.heap.size w wr ∧ Out w.heap.size n A' L C' K I S wr k) (fun i _ _ _ _ => n - (intOf i).toNat)
  case atStart => exact ⟨0, A, C, Nat.zero_le _, rfl, hb1, ho1⟩
  case round =>
    obtain ⟨k, A', C', hk, rfl, hb, ho⟩ := hrel
    by_cases hlt : k < n
    · obtain ⟨b, o, hx, hr⟩ := hR (by omega)
      obtain rfl : x = ⟨b, o, none⟩ := by simpa using hx
      have hck : wr.cell? ⟨b, o + k, none⟩ = some (.slice (A k) (L k) (C k)) := (hb.cell (block_lt_of_cell (hr k hlt).1)).trans (hr k hlt).1
      by_cases hA : A k = none
      · have hl0 := (hF.nil k hlt hA).1
        rw [hA] at hck
        have hnil := fun wx l c => Lib.run_eql_slice_nil (P := Try.prog) wx 39 38 none l c 0 0 Try.underlying39
        obtain ⟨A2, C2, ho2⟩ := ho.skip hlt hl0
        go_wp2
        go_roundw
        case rel => exact ⟨k + 1, A2, C2, by omega, by go_num, hb, ho2⟩
        case measure => simp [intOf]; omega
      · obtain ⟨y, hy⟩ : ∃ y, A k = some y := by
          cases h : A k with
          | none => exact absurd h hA
          | some y => exact ⟨y, rfl⟩
        have hLk := hL k hlt
        have hrow := (hr k hlt).2
        rw [hy] at hck hrow
        have hnil := fun wx l c => Lib.run_eql_slice_nil (P := Try.prog) wx 39 38 (some y) l c 0 0 Try.underlying39
        have hby : Hid (i1.bytes * L k ≤ 281474976710656) := by show _ ≤ _; rw [gz2]; omega
        have hmx : Hid (L k ≤ maxLen) := by show _ ≤ _; unfold maxLen; omega
        obtain ⟨wk, hwk⟩ : ∃ wk : World, wk = wr := ⟨_, rfl⟩
        subst hwk
        go_wp2_with (at_make; refine wpList_make_full _ rfl _ _ 32 rfl wk.heap.size 36 i1 (.agg #[.int .u8 0, .int .i64 0, .string ByteArray.empty]) 3 Try.underlying32 gi gz0 gz1 _ _ _ _ (L k) rfl rfl rfl rfl hby.out hmx.out (Nat.le_refl _) ?_)
        intro w2 hown hgrow
        have hb2 : Below wk.heap.size wk w2 := (Below.refl _ _).grown hgrow (Nat.le_refl _) (fun k h => by cases h)
        have hf2 : FillV wk.heap.size (L k) (K k) (I k) (S k) w2 0 := ⟨_, hown, by simpa using hown.1, fun j hj => by omega⟩
        clear hown hgrow hnil
        go_wp2
        go_loopw [6, 7] (fun i _ wr => ∃ m : Nat, m ≤ L k ∧ i = .int .i64 m ∧ Below wk.heap.size wk wr ∧ FillV wk.heap.size (L k) (K k) (I k) (S k) wr m) (fun i _ _ => L k - (intOf i).toNat)
        case atStart => exact ⟨0, Nat.zero_le _, rfl, hb2, hf2⟩
        case round =>
          obtain ⟨m, hm, rfl, hbm, hfm⟩ := hrel
          have hck2 : wr.cell? ⟨b, o + k, none⟩ = some (.slice (some y) (L k) (C k)) := (hbm.cell (block_lt_of_cell hck)).trans hck
          by_cases hlm : m < L k
          · obtain ⟨b2, o2, hyy, hv⟩ := hrow (by omega)
            obtain rfl : y = ⟨b2, o2, none⟩ := by simpa using hyy
            obtain ⟨v0, v1, v2⟩ := hv m hlm
            have hwk := hb.size
            have c0 : wr.cell? ⟨b2, o2 + m * 3, none⟩ = some (.int .u8 (K k m)) := (hbm.cell (Nat.lt_of_lt_of_le (block_lt_of_cell v0) hwk)).trans ((hb.cell (block_lt_of_cell v0)).trans v0)
            have c1 : wr.cell? ⟨b2, o2 + m * 3 + 1, none⟩ = some (.int .i64 (I k m)) := (hbm.cell (Nat.lt_of_lt_of_le (block_lt_of_cell v1) hwk)).trans ((hb.cell (block_lt_of_cell v1)).trans v1)
            have c2 : wr.cell? ⟨b2, o2 + m * 3 + 2, none⟩ = some (.string (S k m)) := (hbm.cell (Nat.lt_of_lt_of_le (block_lt_of_cell v2) hwk)).trans ((hb.cell (block_lt_of_cell v2)).trans v2)
            have hG := fillV_lt hfm
            obtain ⟨d0, e0⟩ := fillV_cell hfm (m * 3) (by omega)
            obtain ⟨d1, e1⟩ := fillV_cell hfm (m * 3 + 1) (by omega)
            obtain ⟨d2, e2⟩ := fillV_cell hfm (m * 3 + 2) (by omega)
            have z0 := fillV_free hfm (m * 3)
            have z1 := fillV_free hfm (m * 3 + 1)
            have z2 := fillV_free hfm (m * 3 + 2)
            clear v0 v1 v2
            go_wp2
            go_roundw
            case rel => exact ⟨m + 1, by omega, by go_num, (((hbm.setCell (by simp) _).setCell (by simp) _).setCell (by simp) _).alloc (by have := hbm.size; simp; omega) _, fillV_kept (fillV_step hfm hlm) ((Below.refl _ _).alloc (Nat.le_refl _) _)⟩
            case measure => simp [intOf]; omega
          · obtain rfl : m = L k := by omega
            have hok := ho.kept hbm
            obtain ⟨d0, e0⟩ := hok.cell k hlt
            have z0 := hok.free k
            have hBk := ho.lt
            obtain ⟨A2, C2, ho2⟩ := hok.store hlt wk.heap.size (L k) (by omega) (fillV_row hfm)
            have hbk : Below w.heap.size w wr := hb.trans (hbm.mono (by omega))
            have HO2 : Hid _ := ho2
            clear ho2 hok
            go_wp2
            go_roundw
            case rel => exact ⟨k + 1, A2, C2, by omega, by go_num, hbk.setCell (by simp) _, HO2.out⟩
            case measure => simp [intOf]; omega
    · obtain rfl : k = n := by omega
      go_wp2
      go_ret
      exact ⟨rfl, hb, A', C', ho⟩

set_option maxHeartbeats 400000 in
theorem torows_nil (w : World) : Calls Try.prog 15 #[.slice none 0 0] w fun e w' => e = .returned (.slice none 0 0) ∧ w' = w := by
  have hnil := fun wx => Lib.run_eql_slice_nil (P := Try.prog) wx 22 39 none 0 0 0 0 Try.underlying22
  go_enter Try.func15, Try.ntmps15
  go_wp2
  go_ret
  exact ⟨rfl, rfl⟩
end Go.Proofs.Qxb6602738a
