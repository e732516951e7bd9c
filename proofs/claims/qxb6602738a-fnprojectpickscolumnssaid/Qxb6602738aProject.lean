/-
  project (seat b6602738a).
-/
import Derived.Test.Qxb6602738aToRows
namespace Go.Proofs.Qxb6602738a
open Go.RowKit Go.Deep

/-- What the copied rows are to the functions that read them. -/
structure Src (w : World) (B n : Nat) (A : Nat → Option Addr) (L C : Nat → Nat) (K I : Nat → Nat → Int) (S : Nat → Nat → ByteArray) : Prop where
  cells : ∀ i, i < n → w.cell? ⟨B, i, none⟩ = some (.slice (A i) (L i) (C i))
  rows : ∀ i, i < n → RowAt w (A i) (L i) (K i) (I i) (S i)

theorem src_of {B n : Nat} {A : Nat → Option Addr} {L C : Nat → Nat} {K I : Nat → Nat → Int} {S : Nat → Nat → ByteArray} {w : World} (h : Out B n A L C K I S w n) : Src w B n A L C K I S := by
  obtain ⟨xs, ho, hl, h1, _⟩ := h.own
  exact ⟨fun i hi => by rw [ho.cellAt i (by omega)]; exact h1 i hi, h.rows⟩

theorem Src.kept {B n : Nat} {A : Nat → Option Addr} {L C : Nat → Nat} {K I : Nat → Nat → Int} {S : Nat → Nat → ByteArray} {w w' : World} (h : Src w B n A L C K I S) (hb : Below w.heap.size w w') : Src w' B n A L C K I S :=
  ⟨fun i hi => (hb.cell (block_lt_of_cell (h.cells i hi))).trans (h.cells i hi), fun i hi => row_kept (h.rows i hi) hb⟩

/-- project at 0, 1, .., width - 1: the very rows. -/
theorem ints_cell {w : World} {a : Option Addr} {p : Nat} {ps : Nat → Int} (h : IntsAt w a p ps) {k : Nat} (hk : k < p) : ∃ b o, a = some ⟨b, o, none⟩ ∧ w.cell? ⟨b, o + k, none⟩ = some (.int .i64 (ps k)) := by
  obtain ⟨b, o, e, hc⟩ := h (by omega)
  exact ⟨b, o, e, hc k hk⟩

set_option maxHeartbeats 800000 in
theorem project_ident (a : Option Addr) (n c : Nat) (pa : Option Addr) (p pc : Nat) (ps : Nat → Int) (width : Int) (w : World) (hP : IntsAt w pa p ps) (hp : p ≤ 1048576) (hid : Ident p ps width) :
    Calls Try.prog 33 #[.slice a n c, .slice pa p pc, .int .i64 width] w fun e w' => e = .returned (.slice a n c) ∧ w' = w := by
  have hw : ((p : Int) == width) = true := by simpa using hid.1
  have HI : Hid (∀ k : Nat, k < p → ps k = k) := hid.2
  clear hid
  go_enter Try.func33, Try.ntmps33
  go_wp2
  go_loop [7, 8, 9, 23] (fun x _ _ j => ∃ k : Nat, k ≤ p ∧ j = .int .i64 k ∧ x = .bool true) (fun _ _ _ j => p - (intOf j).toNat)
  case atStart => exact ⟨0, by omega, rfl, rfl⟩
  case round =>
    obtain ⟨k, hk, rfl, rfl⟩ := hrel
    by_cases hlt : k < p
    · obtain ⟨b, o, rfl, hck⟩ := ints_cell hP hlt
      have he : (ps k != (k : Int)) = false := by simpa using HI.out k hlt
      go_wp2
      go_round
      case rel => exact ⟨k + 1, by omega, by go_num, rfl⟩
      case measure => simp [intOf]; omega
    · go_wp2
      go_ret
      exact ⟨rfl, rfl⟩

theorem pick_div {p i j : Nat} (hj : j < p) : (i * p + j) / p = i ∧ (i * p + j) % p = j := by
  have hp : 0 < p := by omega
  constructor
  · rw [Nat.mul_comm i p, Nat.mul_add_div hp, Nat.div_eq_of_lt hj]; omega
  · rw [Nat.mul_comm i p, Nat.mul_add_mod, Nat.mod_eq_of_lt hj]

/-- The projected rows under way: block g, n cells, the first k filled: row i is cut out of block V. -/
def POwn (g n p V : Nat) (w : World) (k : Nat) : Prop :=
  ∃ ys : List Value, w.ownsRow g 32 1 (.slice (some ⟨g, 0, none⟩) n n) n ys ∧ ys.length = n ∧ ∀ i, i < k → ys[i]? = some (.slice (some ⟨V, i * p * 3, none⟩) p p)

theorem set_grown (w : World) (G k : Nat) (v : Value) : w.grownBy (w.setCell ⟨G, k, none⟩ v) (some G) :=
  ⟨rfl, rfl, rfl, by simp, fun i _ hi => heap_setCell_other w ⟨G, k, none⟩ i v (fun e => hi (by simp only at e; rw [e]))⟩
theorem fillV_other {G l : Nat} {K I : Nat → Int} {S : Nat → ByteArray} {w : World} {m : Nat} (h : FillV G l K I S w m) (G' k : Nat) (v : Value) (hne : G ≠ G') : FillV G l K I S (w.setCell ⟨G', k, none⟩ v) m := by
  obtain ⟨xs, ho, hl, hx⟩ := h
  exact ⟨xs, ho.kept (set_grown w G' k v) (.inr (by simp [Value.ownBlock]; exact hne)), hl, hx⟩
theorem pOwn_other {g n p V : Nat} {w : World} {k : Nat} (h : POwn g n p V w k) (G' j : Nat) (v : Value) (hne : g ≠ G') : POwn g n p V (w.setCell ⟨G', j, none⟩ v) k := by
  obtain ⟨ys, ho, hl, hx⟩ := h
  exact ⟨ys, ho.kept (set_grown w G' j v) (.inr (by simp [Value.ownBlock]; exact hne)), hl, hx⟩
theorem pOwn_cell {g n p V : Nat} {w : World} {k : Nat} (h : POwn g n p V w k) {j : Nat} (hj : j < n) : ∃ v, w.cell? ⟨g, j, none⟩ = some v := by
  obtain ⟨xs, ho, hl, _⟩ := h
  exact ⟨xs[j]'(by omega), by rw [ho.cellAt j (by omega)]; simp [hl, hj]⟩
theorem pOwn_free {g n p V : Nat} {w : World} {k : Nat} (h : POwn g n p V w k) (j : Nat) : w.frozen? ⟨g, j, none⟩ = false := by
  obtain ⟨xs, ho, hl, _⟩ := h
  exact ho.frozenAt j
theorem pOwn_step {g n p V : Nat} {w : World} {k : Nat} (h : POwn g n p V w k) (hk : k < n) : POwn g n p V (w.setCell ⟨g, k, none⟩ (.slice (some ⟨V, k * p * 3, none⟩) p p)) (k + 1) := by
  obtain ⟨xs, ho, hl, hx⟩ := h
  refine ⟨_, (ho.stored k _).1, by simpa using hl, fun i hi => ?_⟩
  by_cases e : i = k
  · subst e; simp [hl, hk]
  · rw [List.getElem?_set_ne (by omega)]; exact hx i (by omega)

theorem index_lt {n p k m : Nat} (hk : k < n) (hm : m < p) : k * p + m < n * p := by
  have : (k + 1) * p ≤ n * p := Nat.mul_le_mul_right p hk
  rw [Nat.add_mul] at this
  omega

/-- What is left behind the loop: the projected rows. -/
theorem src_made {g n p V : Nat} {K I : Nat → Nat → Int} {S : Nat → Nat → ByteArray} {pn : Nat → Nat} {w : World} (h1 : POwn g n p V w n) (h2 : FillV V (n * p) (fun t => K (t / p) (pn (t % p))) (fun t => I (t / p) (pn (t % p))) (fun t => S (t / p) (pn (t % p))) w (n * p)) :
    Src w g n (fun i => some ⟨V, i * p * 3, none⟩) (fun _ => p) (fun _ => p) (fun i j => K i (pn j)) (fun i j => I i (pn j)) (fun i j => S i (pn j)) := by
  obtain ⟨ys, ho, hl, hx⟩ := h1
  obtain ⟨xs, go, gl, gx⟩ := h2
  refine ⟨fun i hi => by rw [ho.cellAt i (by omega)]; exact hx i hi, fun i hi hp => ⟨V, i * p * 3, rfl, fun j hj => ?_⟩⟩
  have hlt := index_lt hi hj
  obtain ⟨e0, e1, e2⟩ := gx (i * p + j) hlt
  dsimp only at e0 e1 e2
  rw [(pick_div hj).1, (pick_div hj).2] at e0 e1 e2
  have e : i * p * 3 + j * 3 = (i * p + j) * 3 := by rw [Nat.add_mul]
  rw [e]
  exact ⟨by rw [go.cellAt _ (by omega)]; exact e0, by rw [go.cellAt _ (by omega)]; exact e1, by rw [go.cellAt _ (by omega)]; exact e2⟩

/-- project's answer where the positions are not 0, 1, ..: new rows. -/
def PEnd (B n : Nat) (p : Nat) (K I : Nat → Nat → Int) (S : Nat → Nat → ByteArray) (w' : World) (e : Ending) : Prop :=
  ∃ g A2 C2, e = .returned (.slice (some ⟨g, 0, none⟩) n n) ∧ B ≤ g ∧ Src w' g n A2 (fun _ => p) C2 K I S

set_option maxHeartbeats 3200000 in
theorem project_other (a : Option Addr) (B n c : Nat) (A : Nat → Option Addr) (L C : Nat → Nat) (K I : Nat → Nat → Int) (S : Nat → Nat → ByteArray) (pa : Option Addr) (p pc : Nat) (pn : Nat → Nat) (width : Int) (w : World)
    (hS : 0 < n → a = some ⟨B, 0, none⟩ ∧ Src w B n A L C K I S) (hP : IntsAt w pa p (fun j => (pn j : Int))) (hn : n ≤ 1048576) (hp : p ≤ 1048576) (hnp : n * p ≤ 1048576) (hL : ∀ i, i < n → (L i : Int) = width) (hpw : ∀ j, j < p → (pn j : Int) < width) (hid : ¬ Ident p (fun j => (pn j : Int)) width) (hp0 : 0 < p) :
    Calls Try.prog 33 #[.slice a n c, .slice pa p pc, .int .i64 width] w fun e w' => PEnd w.heap.size n p (fun i j => K i (pn j)) (fun i j => I i (pn j)) (fun i j => S i (pn j)) w' e ∧ Below w.heap.size w w' := by
  obtain ⟨i0, hi, hz0, hz1, hz2⟩ := info_parts Try.info32
  obtain ⟨i1, gi, gz0, gz1, gz2⟩ := info_parts Try.info36
  have hnpi : (n : Int) * (p : Int) ≤ 1048576 := by have h := Int.natCast_mul n p; omega
  have hnp0 : 0 ≤ (n : Int) * (p : Int) := Int.mul_nonneg (by omega) (by omega)
  have hby1 : Hid (i1.bytes * (n * p) ≤ 281474976710656) := by show _ ≤ _; rw [gz2]; omega
  have hmx1 : Hid (n * p ≤ maxLen) := by show _ ≤ _; unfold maxLen; omega
  have hby0 : Hid (i0.bytes * n ≤ 281474976710656) := by show _ ≤ _; rw [hz2]; omega
  have hmx0 : Hid (n ≤ maxLen) := by show _ ≤ _; unfold maxLen; omega
  have HID : Hid (¬ Ident p (fun j => (pn j : Int)) width) := hid
  have HLW : Hid (∀ i, i < n → (L i : Int) = width) := hL
  clear hid hL
  go_enter Try.func33, Try.ntmps33
  go_wp2
  go_loop [7, 8, 9, 23] (fun x _ _ j => ∃ (k : Nat) (bv : Bool), k ≤ p ∧ j = .int .i64 k ∧ x = .bool bv ∧ (bv = true → (p : Int) = width ∧ ∀ i, i < k → pn i = i)) (fun _ _ _ j => p - (intOf j).toNat)
  case atStart => exact ⟨0, _, by omega, rfl, rfl, fun h => ⟨eq_of_beq h, fun i hi => by omega⟩⟩
  case round =>
    obtain ⟨k, bv, hk, rfl, rfl, hbv⟩ := hrel
    have HB : Hid (bv = true → (p : Int) = width ∧ ∀ i, i < k → pn i = i) := hbv
    clear hbv
    by_cases hlt : k < p
    · obtain ⟨b, o, rfl, hck⟩ := ints_cell hP hlt
      by_cases he : pn k = k
      · have he' : ((pn k : Int) != (k : Int)) = false := by simp; omega
        have HE : Hid (pn k = k) := he
        clear he
        go_wp2
        go_round
        case rel => exact ⟨k + 1, bv, by omega, by go_num, rfl, fun h => ⟨(HB.out h).1, fun i hi => by by_cases e : i = k; subst e; exact HE.out; exact (HB.out h).2 i (by omega)⟩⟩
        case measure => simp [intOf]; omega
      · have he' : ((pn k : Int) != (k : Int)) = true := by simp; omega
        go_wp2
        go_round
        case rel => exact ⟨k + 1, false, by omega, by go_num, rfl, fun h => by cases h⟩
        case measure => simp [intOf]; omega
    · have hbf : bv = false := by
        cases bv with
        | false => rfl
        | true => exact absurd ⟨(HB.out rfl).1, fun i hi => by have := (HB.out rfl).2 i (by omega); simp only; omega⟩ HID.out
      subst hbf
      clear HB
      go_wp2_with (first
        | (at_make; refine wpList_make_full _ rfl (.tmp 38) (.tmp 38) 31 rfl w.heap.size 36 i1 (.agg #[.int .u8 0, .int .i64 0, .string ByteArray.empty]) 3 Try.underlying31 gi gz0 gz1 _ _ _ _ (n * p) rfl rfl (Int.natCast_mul n p).symm (Int.natCast_mul n p).symm hby1.out hmx1.out (Nat.le_refl _) ?_; intro w1 hown1 hgrow1; have hb1 : Below w.heap.size w w1 := (Below.refl _ _).grown hgrow1 (Nat.le_refl _) (fun k h => by cases h); have hf1 : FillV w.heap.size (n * p) (fun t => K (t / p) (pn (t % p))) (fun t => I (t / p) (pn (t % p))) (fun t => S (t / p) (pn (t % p))) w1 0 := ⟨_, hown1, by simpa using hown1.1, fun j hj => by omega⟩; clear hown1 hgrow1)
        | (at_make; refine wpList_make_full _ rfl (.tmp 41) (.tmp 41) 28 rfl w1.heap.size 32 i0 (.slice none 0 0) 1 Try.underlying28 hi hz0 hz1 _ _ _ _ n rfl rfl rfl rfl hby0.out hmx0.out (Nat.le_refl _) ?_; intro w2 hown2 hgrow2; have hb2 : Below w1.heap.size w1 w2 := (Below.refl _ _).grown hgrow2 (Nat.le_refl _) (fun k h => by cases h); have hf2 := fillV_kept hf1 hb2; have hV1 := fillV_lt hf1; have ho2 : POwn w1.heap.size n p w.heap.size w2 0 := ⟨_, hown2, by simpa using hown2.1, fun j hj => by omega⟩; have hb3 : Below w.heap.size w w2 := hb1.trans (hb2.mono hb1.size); clear hown2 hgrow2 hf1 hb1 hb2))
      have hBw := hb3.size
      obtain ⟨V, hV⟩ : ∃ V, V = w.heap.size := ⟨_, rfl⟩
      obtain ⟨g, hg⟩ : ∃ g, g = w1.heap.size := ⟨_, rfl⟩
      rw [← hV] at hV1 hf2 hb3 hBw
      rw [← hg, ← hV] at ho2
      rw [← hg] at hV1
      rw [← hV, ← hg]
      have HV : Hid (V = w.heap.size) := hV
      have HG : Hid (g = w1.heap.size) := hg
      clear hV hg
      go_loopw [12, 13, 14, 15, 16, 45] (fun _ _ _ _ _ i wr => ∃ k : Nat, k ≤ n ∧ i = .int .i64 k ∧ Below V w wr ∧ POwn g n p V wr k ∧ FillV V (n * p) (fun t => K (t / p) (pn (t % p))) (fun t => I (t / p) (pn (t % p))) (fun t => S (t / p) (pn (t % p))) wr (k * p)) (fun _ _ _ _ _ i _ => n - (intOf i).toNat)
      case atStart => exact ⟨0, Nat.zero_le _, rfl, hb3, ho2, by rw [Nat.zero_mul]; exact hf2⟩
      case round =>
        obtain ⟨i, hin, rfl, hb, ho, hf⟩ := hrel
        by_cases hlti : i < n
        · obtain ⟨ha, hsrc⟩ := hS (by omega)
          subst ha
          have hci : wr.cell? ⟨B, i, none⟩ = some (.slice (A i) (L i) (C i)) := (hb.cell (by rw [HV.out]; exact block_lt_of_cell (hsrc.cells i hlti))).trans (hsrc.cells i hlti)
          have hlo : (i : Int) * (p : Int) ≤ (n : Int) * (p : Int) := Int.mul_le_mul_of_nonneg_right (by omega) (by omega)
          have hhi : ((i : Int) + 1) * (p : Int) ≤ (n : Int) * (p : Int) := Int.mul_le_mul_of_nonneg_right (by omega) (by omega)
          have hlo0 : 0 ≤ (i : Int) * (p : Int) := Int.mul_nonneg (by omega) (by omega)
          have hhe : ((i : Int) + 1) * (p : Int) = (i : Int) * (p : Int) + p := by rw [Int.add_mul]; omega
          go_wp2
          go_loopw [15, 16, 68] (fun _ _ j wr => ∃ m : Nat, m ≤ p ∧ j = .int .i64 m ∧ Below V w wr ∧ POwn g n p V wr i ∧ FillV V (n * p) (fun t => K (t / p) (pn (t % p))) (fun t => I (t / p) (pn (t % p))) (fun t => S (t / p) (pn (t % p))) wr (i * p + m)) (fun _ _ j _ => p - (intOf j).toNat)
          case atStart => exact ⟨0, Nat.zero_le _, rfl, hb, ho, hf⟩
          case round =>
            obtain ⟨m, hm, rfl, hbm, hom, hfm⟩ := hrel
            by_cases hlm : m < p
            · obtain ⟨pb, po, rfl, hpc⟩ := ints_cell hP hlm
              have hpc2 : wr.cell? ⟨pb, po + m, none⟩ = some (.int .i64 (pn m)) := (hbm.cell (by rw [HV.out]; exact block_lt_of_cell hpc)).trans hpc
              have hpl : pn m < L i := by have h1 := HLW.out i hlti; have h2 := hpw m hlm; omega
              obtain ⟨rb, ro, hAi, hv⟩ := hsrc.rows i hlti (by omega)
              obtain ⟨v0, v1, v2⟩ := hv (pn m) hpl
              have c0 : wr.cell? ⟨rb, ro + pn m * 3, none⟩ = some (.int .u8 (K i (pn m))) := (hbm.cell (by rw [HV.out]; exact block_lt_of_cell v0)).trans v0
              have c1 : wr.cell? ⟨rb, ro + pn m * 3 + 1, none⟩ = some (.int .i64 (I i (pn m))) := (hbm.cell (by rw [HV.out]; exact block_lt_of_cell v1)).trans v1
              have c2 : wr.cell? ⟨rb, ro + pn m * 3 + 2, none⟩ = some (.string (S i (pn m))) := (hbm.cell (by rw [HV.out]; exact block_lt_of_cell v2)).trans v2
              have hq := index_lt hlti hlm
              have hqe : (i * p + m) * 3 = i * p * 3 + m * 3 := Nat.add_mul _ _ _
              have hstep := fillV_step hfm hq
              rw [hqe, (pick_div hlm).1, (pick_div hlm).2] at hstep
              have HST : Hid _ := hstep
              obtain ⟨d0, e0⟩ := fillV_cell hfm (i * p * 3 + m * 3) (by omega)
              obtain ⟨d1, e1⟩ := fillV_cell hfm (i * p * 3 + m * 3 + 1) (by omega)
              obtain ⟨d2, e2⟩ := fillV_cell hfm (i * p * 3 + m * 3 + 2) (by omega)
              have z0 := fillV_free hfm (i * p * 3 + m * 3)
              have z1 := fillV_free hfm (i * p * 3 + m * 3 + 1)
              have z2 := fillV_free hfm (i * p * 3 + m * 3 + 2)
              clear v0 v1 v2 hstep hqe hq
              go_wp2
              go_roundw
              case rel => exact ⟨m + 1, by omega, by go_num, ((hbm.setCell (Nat.le_refl _) _).setCell (Nat.le_refl _) _).setCell (Nat.le_refl _) _, pOwn_other (pOwn_other (pOwn_other hom _ _ _ (by omega)) _ _ _ (by omega)) _ _ _ (by omega), HST.out⟩
              case measure => simp [intOf]; omega
            · obtain rfl : m = p := by omega
              obtain ⟨d0, e0⟩ := pOwn_cell hom hlti
              have z0 := pOwn_free hom i
              have hps := pOwn_step hom hlti
              have hfs := fillV_other hfm g i (.slice (some ⟨V, i * m * 3, none⟩) m m) (by omega)
              rw [show i * m + m = (i + 1) * m from by rw [Nat.add_mul, Nat.one_mul]] at hfs
              have HPS : Hid _ := hps
              have HFS : Hid _ := hfs
              clear hps hfs
              go_wp2
              go_roundw
              case rel => exact ⟨i + 1, by omega, by go_num, hbm.setCell (by simp only; omega) _, HPS.out, HFS.out⟩
              case measure => simp [intOf]; omega
        · obtain rfl : i = n := by omega
          go_wp2
          go_ret
          exact ⟨⟨g, _, _, rfl, by have := HV.out; omega, src_made ho hf⟩, by rw [← HV.out]; exact hb⟩
end Go.Proofs.Qxb6602738a
