/-
  THE LAW FnProjectPicksColumns (seat b6602738a): her walk.
-/
import Derived.Test.Qxb6602738aProject0
import Derived.Laws.CopyOwn
import Derived.Deep.QuietTactic
import Derived.BigQuiet
import Derived.Deep.RegionHeld3
import Derived.Deep.RegionWith
import Derived.RowKit3
import Derived.Laws.Pointers
import Derived.WalkSmall
namespace Go.Proofs.Qxb6602738a
open Go.RowKit Go.Deep

theorem Try.info3 : (Try.prog.info? 3).map (fun i => (i.zero, i.size, i.bytes)) = some (some (.int .i64 0), 1, 8) := by kernel_rfl

set_option maxHeartbeats 800000 in
theorem same_any (k i : Int) (s : ByteArray) (w : World) :
    Calls Try.prog 17 #[.agg #[.int .u8 k, .int .i64 i, .string s], .agg #[.int .u8 k, .int .i64 i, .string s]] w fun e w' => e = .returned (.bool true) ∧
      w' = (w.alloc (.cells #[.int .u8 k, .int .i64 i, .string s] 36)).alloc (.cells #[.int .u8 k, .int .i64 i, .string s] 38) := by
  go_enter Try.func17, Try.ntmps17
  go_wp2
  go_ret
  exact ⟨rfl, rfl⟩

/-- project where the positions are not 0, 1, .., width - 1. -/
theorem project_new (a : Option Addr) (B n c : Nat) (A : Nat → Option Addr) (L C : Nat → Nat) (K I : Nat → Nat → Int) (S : Nat → Nat → ByteArray) (pa : Option Addr) (p pc : Nat) (pn : Nat → Nat) (width : Int) (w : World)
    (hS : 0 < n → a = some ⟨B, 0, none⟩ ∧ Src w B n A L C K I S) (hP : IntsAt w pa p (fun j => (pn j : Int))) (hn : n ≤ 1048576) (hp : p ≤ 1048576) (hnp : n * p ≤ 1048576) (hL : ∀ i, i < n → (L i : Int) = width) (hpw : ∀ j, j < p → (pn j : Int) < width) (hid : ¬ Ident p (fun j => (pn j : Int)) width) :
    Calls Try.prog 33 #[.slice a n c, .slice pa p pc, .int .i64 width] w fun e w' => PEnd w.heap.size n p (fun i j => K i (pn j)) (fun i j => I i (pn j)) (fun i j => S i (pn j)) w' e ∧ Below w.heap.size w w' := by
  by_cases hp0 : 0 < p
  · exact project_other a B n c A L C K I S pa p pc pn width w hS hP hn hp hnp hL hpw hid hp0
  · obtain rfl : p = 0 := by omega
    have hw : width ≠ 0 := fun h => hid ⟨by simp [h], fun k hk => by omega⟩
    exact project_empty a B n c A L C K I _ _ S _ pa pc width w hS hn hw

/-- '&got[0] != &rs[0]' at one and the same place. -/
theorem run_neq_ptr_self (w : World) (g : Nat) : (binOp .neq 40 (.pointer (some ⟨g, 0, none⟩)) (.pointer (some ⟨g, 0, none⟩))).run Try.prog w = .ok (.bool false) w := by
  have h : ∀ d : Nat, (Op.equalIn (d + 1) 40 (.pointer (some ⟨g, 0, none⟩)) (.pointer (some ⟨g, 0, none⟩))).run Try.prog w = .ok true w := fun d => by
    simp [Op.equalIn, run_underlying Try.underlying40, sameAddr]
  simp only [binOp]
  simp [Op.equal, Op.maxDepth, h 9999]

/-- A made row, whole. -/
theorem row_whole {w : World} {base e g n : Nat} {xs : List Value} (h : w.ownsRow base e 1 (.slice (some ⟨g, 0, none⟩) n n) n xs) : ∃ cur : List Value, w.heap[g]? = some (.cells cur.toArray e (0, 0)) ∧ n ≤ cur.length := by
  rcases h.2 with ⟨h', _⟩ | ⟨g', cap', cur, h', _, hg, hnc, hcm, hcs, _⟩
  · simp at h'
  · simp only [Value.slice.injEq, Option.some.injEq, Addr.mk.injEq, and_true, true_and] at h'
    obtain ⟨rfl, rfl⟩ := h'
    exact ⟨cur.toList, by simpa using hg, by simp; omega⟩

/-- The positions' cells, as a list. -/
def posCells (p : Nat) (ps : Nat → Int) : List Value := (List.range p).map fun k => .int .i64 (ps k)
theorem posCells_len (p : Nat) (ps : Nat → Int) : (posCells p ps).length = p := by simp [posCells]
theorem posCells_get {p : Nat} {ps : Nat → Int} {j : Nat} (hj : j < p) : (posCells p ps)[j]? = some (.int .i64 (ps j)) := by simp [posCells, hj]
theorem posCells_src {w w1 : World} {y : Addr} {p : Nat} {ps : Nat → Int} (hP : IntsAt w (some y) p ps) (hb : Below w.heap.size w w1) (hp : 0 < (posCells p ps).length) : ∃ ad, some y = some ad ∧ ∀ j v, (posCells p ps)[j]? = some v → w1.cell? (ad.add j) = some v := by
  rw [posCells_len] at hp
  obtain ⟨b, o, e, hc⟩ := hP hp
  refine ⟨y, rfl, fun j v hj => ?_⟩
  have hjp : j < p := by
    rcases Nat.lt_or_ge j p with h | h
    · exact h
    · rw [List.getElem?_eq_none (by rw [posCells_len]; exact h)] at hj; cases hj
  rw [posCells_get hjp] at hj
  simp at hj
  subst hj
  obtain rfl : y = ⟨b, o, none⟩ := by simpa using e
  rw [Go.WideShapes.add_plain]
  exact (hb.cell (block_lt_of_cell (hc j hjp))).trans (hc j hjp)
theorem ints_copied {w : World} {g p : Nat} {cur : List Value} {ps : Nat → Int} (h : w.heap[g]? = some (.cells (splice cur 0 (posCells p ps)).toArray 3 (0, 0))) : IntsAt w (some ⟨g, 0, none⟩) p ps := by
  intro _
  refine ⟨g, 0, rfl, fun k hk => ?_⟩
  rw [Nat.zero_add, cell_of_row w g k _ 3 (0, 0) h]
  have := posCells_get (ps := ps) hk
  simp only [splice, List.take_zero, List.nil_append, List.getElem?_toArray]
  rw [List.getElem?_append_left (by rw [posCells_len]; exact hk)]
  exact this

/-- 'copy' into the made row. -/
theorem copied {w w1 : World} {y : Addr} {p : Nat} {ps : Nat → Int} {xs : List Value} (hb : Below w.heap.size w w1) (ho : w1.ownsRow w.heap.size 3 1 (.slice (some ⟨w.heap.size, 0, none⟩) p p) p xs) (hP : IntsAt w (some y) p ps) (pc : Nat) :
    ∃ w2 : World, (Builtin.copy_ #[23, 23] 3 #[.slice (some ⟨w.heap.size, 0, none⟩) p p, .slice (some y) p pc]).run Try.prog w1 = .ok (goInt p) w2 ∧ Below w.heap.size w w2 ∧ IntsAt w2 (some ⟨w.heap.size, 0, none⟩) p ps := by
  obtain ⟨cur, hcur, hcl⟩ := row_whole ho
  obtain ⟨i3, gi3, gz30, gz31, gz32⟩ := info_parts Try.info3
  have hsrc : ∀ j v, (posCells p ps)[j]? = some v → w1.cell? (y.add j) = some v := by
    intro j v hj
    have hjp : 0 < (posCells p ps).length := by
      rcases Nat.eq_zero_or_pos (posCells p ps).length with h | h
      · rw [List.eq_nil_of_length_eq_zero h] at hj; simp at hj
      · exact h
    obtain ⟨ad, e, hs⟩ := posCells_src hP hb hjp
    obtain rfl : y = ad := by simpa using e
    exact hs j v hj
  have hrun := run_copy_row (P := Try.prog) w1 23 23 3 3 w.heap.size 0 p p y p pc cur.toArray 3 (posCells p ps) Try.underlying23 (by rw [gi3]; simp [gz31]) hcur (by rw [posCells_len]; exact (Nat.min_self p).symm) hsrc (by rw [posCells_len]; simpa using hcl) (by intro v hv; simp [posCells] at hv; obtain ⟨k, _, rfl⟩ := hv; rfl)
  rw [posCells_len] at hrun
  refine ⟨_, hrun, below_setRow hb (Nat.le_refl _) _, ?_⟩
  refine ints_copied (cur := cur) ?_
  have h := setRow_heap w1 w.heap.size _ (List.take 0 cur.toArray.toList ++ posCells p ps ++ List.drop (0 + p) cur.toArray.toList).toArray 3 _ hcur
  rw [h]
  simp [splice, posCells_len]

/-- toRowsSqlB1's answer, whatever the rows. -/
def RsEnd (w' : World) (a : Option Addr) (n : Nat) (L : Nat → Nat) (K I : Nat → Nat → Int) (S : Nat → Nat → ByteArray) (e : Ending) : Prop :=
  ∃ ra rc B A' C', e = .returned (.slice ra n rc) ∧ (ra = none ↔ a = none) ∧ (0 < n → ra = some ⟨B, 0, none⟩ ∧ Src w' B n A' L C' K I S)

theorem torows_any (a : Option Addr) (n c : Nat) (A : Nat → Option Addr) (L C : Nat → Nat) (K I : Nat → Nat → Int) (S : Nat → Nat → ByteArray) (w : World) (hR : RowsAt w a n A L C K I S) (hF : Fits n A L C S) (hnil : a = none → n = 0 ∧ c = 0) (hn : 24 * n ≤ 1048576) (hL : ∀ i, i < n → 32 * L i ≤ 1048576) :
    Calls Try.prog 15 #[.slice a n c] w fun e w' => RsEnd w' a n L K I S e ∧ Below w.heap.size w w' := by
  match a, hR, hnil with
  | none, hR, hnil =>
    obtain ⟨rfl, rfl⟩ := hnil rfl
    refine (torows_nil w).mono ?_
    rintro e w' ⟨rfl, rfl⟩
    exact ⟨⟨none, 0, 0, fun _ => none, fun _ => 0, rfl, Iff.rfl, fun h => by omega⟩, Below.refl _ _⟩
  | some x, hR, _ =>
    refine (torows_some x n c A L C K I S w hR hF hn hL).mono ?_
    rintro e w' ⟨rfl, hb, A', C', ho⟩
    exact ⟨⟨_, n, w.heap.size, A', C', rfl, ⟨fun h => (by cases h), fun h => (by cases h)⟩, fun _ => ⟨rfl, src_of ho⟩⟩, hb⟩

/-- project's answer, whatever the positions. -/
def GotEnd (w' : World) (ra : Option Addr) (rc n p : Nat) (id : Prop) (K I : Nat → Nat → Int) (S : Nat → Nat → ByteArray) (e : Ending) : Prop :=
  ∃ ga gc g A2 C2, e = .returned (.slice ga n gc) ∧ (0 < n → ga = some ⟨g, 0, none⟩ ∧ Src w' g n A2 (fun _ => p) C2 K I S) ∧ (id → ga = ra ∧ gc = rc) ∧ (¬ id → ga ≠ none)

theorem project_any (a : Option Addr) (B n c : Nat) (A : Nat → Option Addr) (L C : Nat → Nat) (K I : Nat → Nat → Int) (S : Nat → Nat → ByteArray) (pa : Option Addr) (p pc : Nat) (pn : Nat → Nat) (width : Int) (w : World)
    (hS : 0 < n → a = some ⟨B, 0, none⟩ ∧ Src w B n A L C K I S) (hP : IntsAt w pa p (fun j => (pn j : Int))) (hn : n ≤ 1048576) (hp : p ≤ 1048576) (hnp : n * p ≤ 1048576) (hL : ∀ i, i < n → (L i : Int) = width) (hpw : ∀ j, j < p → (pn j : Int) < width) :
    Calls Try.prog 33 #[.slice a n c, .slice pa p pc, .int .i64 width] w fun e w' => GotEnd w' a c n p (Ident p (fun j => (pn j : Int)) width) (fun i j => K i (pn j)) (fun i j => I i (pn j)) (fun i j => S i (pn j)) e ∧ Below w.heap.size w w' := by
  by_cases hid : Ident p (fun j => (pn j : Int)) width
  · refine (project_ident a n c pa p pc _ width w hP hp hid).mono ?_
    rintro e w' ⟨rfl, rfl⟩
    refine ⟨⟨a, c, B, A, C, rfl, fun hn0 => ⟨(hS hn0).1, ?_⟩, fun _ => ⟨rfl, rfl⟩, fun h => absurd hid h⟩, Below.refl _ _⟩
    have hsrc := (hS hn0).2
    have hLp : ∀ i, i < n → L i = p := fun i hi => by have h1 := hL i hi; have h2 := hid.1; omega
    have hpn : ∀ j, j < p → pn j = j := fun j hj => by have h3 := hid.2 j hj; simp only at h3; omega
    refine ⟨fun i hi => by rw [← hLp i hi]; exact hsrc.cells i hi, fun i hi hp0 => ?_⟩
    obtain ⟨b, o, hA, hv⟩ := hsrc.rows i hi (by rw [hLp i hi]; exact hp0)
    refine ⟨b, o, hA, fun j hj => ?_⟩
    have := hv j (by rw [hLp i hi]; exact hj)
    rw [hpn j hj]
    exact this
  · refine (project_new a B n c A L C K I S pa p pc pn width w hS hP hn hp hnp hL hpw hid).mono ?_
    rintro e w' ⟨⟨g, A2, C2, rfl, _, hs⟩, hb⟩
    exact ⟨⟨_, n, g, A2, C2, rfl, fun _ => ⟨rfl, hs⟩, fun h => absurd h hid, fun _ h => (by cases h)⟩, hb⟩

set_option maxHeartbeats 800000 in
theorem zz_project (a : Option Addr) (B n c : Nat) (A : Nat → Option Addr) (L C : Nat → Nat) (K I : Nat → Nat → Int) (S : Nat → Nat → ByteArray) (pa : Option Addr) (p pc : Nat) (pn : Nat → Nat) (width : Int) (w : World)
    (hS : 0 < n → a = some ⟨B, 0, none⟩ ∧ Src w B n A L C K I S) (hP : IntsAt w pa p (fun j => (pn j : Int))) (hn : n ≤ 1048576) (hp : p ≤ 1048576) (hnp : n * p ≤ 1048576) (hL : ∀ i, i < n → (L i : Int) = width) (hpw : ∀ j, j < p → (pn j : Int) < width) :
    Calls Try.prog 16 #[.slice a n c, .slice pa p pc, .int .i64 width] w fun e w' => GotEnd w' a c n p (Ident p (fun j => (pn j : Int)) width) (fun i j => K i (pn j)) (fun i j => I i (pn j)) (fun i j => S i (pn j)) e ∧ Below w.heap.size w w' := by
  have HPJ : Hid _ := hL
  clear hL
  go_enter Try.func16, Try.ntmps16
  go_wp2_with (go_at_call 33; refine (project_any a B n c A L C K I S pa p pc pn width w hS hP hn hp hnp HPJ.out hpw).mono ?_; rintro e w4 ⟨⟨ga, gc, g, A2, C2, rfl, hgs, hgi, hgn⟩, hb4⟩; have HG : Hid _ := And.intro hgs (And.intro hgi hgn); clear hgs hgi hgn)
  go_ret
  exact ⟨⟨ga, gc, g, A2, C2, rfl, HG.out.1, HG.out.2.1, HG.out.2.2⟩, hb4⟩

theorem ints_kept {w w' : World} {a : Option Addr} {p : Nat} {ps : Nat → Int} (h : IntsAt w a p ps) (hb : Below w.heap.size w w') : IntsAt w' a p ps := by
  intro hp
  obtain ⟨b, o, e, hc⟩ := h hp
  exact ⟨b, o, e, fun k hk => (hb.cell (block_lt_of_cell (hc k hk))).trans (hc k hk)⟩

theorem rows_kept {w w' : World} {a : Option Addr} {n : Nat} {A : Nat → Option Addr} {L C : Nat → Nat} {K I : Nat → Nat → Int} {S : Nat → Nat → ByteArray} (h : RowsAt w a n A L C K I S) (hb : Below w.heap.size w w') : RowsAt w' a n A L C K I S := by
  intro hn
  obtain ⟨b, o, e, hr⟩ := h hn
  exact ⟨b, o, e, fun i hi => ⟨(hb.cell (block_lt_of_cell (hr i hi).1)).trans (hr i hi).1, row_kept (hr i hi).2 hb⟩⟩

/-- The positions as numbers. -/
theorem pn_of {w : World} {pa : Option Addr} {p : Nat} {ps : Nat → Int} {width : Int} (hHP : ∀ k, k < p → 0 ≤ ps k ∧ ps k < width) (hP : IntsAt w pa p ps) : ∃ pn : Nat → Nat, IntsAt w pa p (fun j => (pn j : Int)) ∧ ∀ j, j < p → (pn j : Int) < width := by
  refine ⟨fun k => (ps k).toNat, fun h => ?_, fun j hj => by have := hHP j hj; simp only; omega⟩
  obtain ⟨b, o, e, hc⟩ := hP h
  refine ⟨b, o, e, fun k hk => ?_⟩
  have h1 : ((ps k).toNat : Int) = ps k := by have := hHP k hk; omega
  show _ = some (Value.int .i64 ((ps k).toNat : Int))
  rw [h1]
  exact hc k hk

set_option maxHeartbeats 3200000 in
theorem project_law (a : Option Addr) (n c : Nat) (A : Nat → Option Addr) (L C : Nat → Nat) (K I : Nat → Nat → Int) (S : Nat → Nat → ByteArray) (pa : Option Addr) (p pc : Nat) (ps : Nat → Int) (width : Int) (w : World)
    (hR : RowsAt w a n A L C K I S) (hF : Fits n A L C S) (hnil : a = none → n = 0 ∧ c = 0) (hnm : n ≤ maxLen) (hP : IntsAt w pa p ps) (hpnil : pa = none → p = 0 ∧ pc = 0) (hpm : p ≤ maxLen) :
    Calls Try.prog 3 #[.slice a n c, .slice pa p pc, .int .i64 width] w fun e w' => e = .returned (.bool true) ∧ Below w.heap.size w w' := by
  go_enter Try.func3, Try.ntmps3
  go_wp2_with fail
  refine (zzbytes_any a n c A L C K I S pa p pc width w hR hF hnm hpm).mono ?_
  rintro e w' ⟨⟨r, rfl, hr⟩, rfl⟩
  cases r with
  | false => 
    go_wp2
    go_ret
    exact ⟨rfl, Below.refl _ _⟩
  | true =>
    obtain ⟨hn, hp⟩ := hr rfl
    clear hr
    by_cases hp17 : 131072 < p
    · go_wp2
      go_ret
      exact ⟨rfl, Below.refl _ _⟩
    have d19 : decide ((131072 : Int) < (p : Int)) = false := decide_eq_false (by omega)
    go_wp2_with fail
    refine (count_any a n c A L C K I S _ hR hF hn).mono ?_
    rintro e w' ⟨⟨x, rfl, hx0, hx1, hx⟩, rfl⟩
    by_cases hxb : 1048576 < x + 8 * p
    · go_wp2
      go_ret
      exact ⟨rfl, Below.refl _ _⟩
    obtain ⟨hn24, hL32⟩ := hx (by omega)
    clear hx
    have d26 : decide ((1048576 : Int) < x + 8 * (p : Int)) = false := decide_eq_false (by omega)
    by_cases hdiv : 0 < p ∧ (1048576 : Int) / (p : Int) < (n : Int)
    · obtain ⟨hd1, hd2⟩ := hdiv
      go_wp2
      go_ret
      exact ⟨rfl, Below.refl _ _⟩
    have hnp : n * p ≤ 1048576 := by
      by_cases h0 : p = 0
      · subst h0; omega
      · have hdc : ((1048576 / p : Nat) : Int) = (1048576 : Int) / (p : Int) := Int.natCast_ediv 1048576 p
        have h1 : n ≤ 1048576 / p := by
          have h2 : ¬ (1048576 : Int) / (p : Int) < (n : Int) := fun h => hdiv ⟨by omega, h⟩
          omega
        exact (Nat.le_div_iff_mul_le (by omega)).1 h1
    have hdd : (p : Int) ≤ 0 ∨ (0 < (p : Int) ∧ decide ((1048576 : Int) / (p : Int) < (n : Int)) = false) := by
      by_cases h0 : p = 0
      · exact .inl (by omega)
      · have h2 : ¬ (1048576 : Int) / (p : Int) < (n : Int) := fun h => hdiv ⟨by omega, h⟩
        exact .inr ⟨by omega, decide_eq_false h2⟩
    clear hdiv
    have hdg : ∀ q : Prop, q → q := fun _ h => h
    rcases hdd with h0 | ⟨h0, hq⟩
    all_goals
      go_wp2_with fail
      refine (width_any a n c A L C K I S width _ hR hn).mono ?_
      rintro e w' ⟨⟨r, rfl, hr⟩, rfl⟩
      cases r with
      | false =>
        go_wp2
        go_ret
        exact ⟨rfl, Below.refl _ _⟩
      | true =>
        have HW : Hid (∀ i, i < n → (L i : Int) = width) := hr rfl
        clear hr
        go_wp2_with fail
        refine (within_any pa p pc ps width _ hP hp).mono ?_
        rintro e w' ⟨⟨r, rfl, hr⟩, rfl⟩
        cases r with
        | false =>
          go_wp2
          go_ret
          exact ⟨rfl, Below.refl _ _⟩
        | true =>
          have HP : Hid (∀ k, k < p → 0 ≤ ps k ∧ ps k < width) := hr rfl
          clear hr
          have hnn := fun wx (y : Option Addr) l c => run_neq_slice_nil_any (P := Try.prog) wx 23 3 y l c 0 0 Try.underlying23
          cases pa with
          | none =>
            have hp0 : (p : Int) ≤ 0 := by have := (hpnil rfl).1; omega
            clear hpnil
            go_wp2_with fail
            obtain ⟨pn, hP2n, hpw⟩ := pn_of HP.out hP
            clear HP hP
            refine (torows_any a n c A L C K I S _ hR hF hnil hn24 hL32).mono ?_
            rintro e w3 ⟨⟨ra, rc, B, A', C', rfl, hran, hsrc⟩, hb3⟩
            have hP3 := ints_kept hP2n hb3
            have hR3 := rows_kept hR hb3
            have hbw3 := hb3
            clear hP2n hR hb3
            have hHW := HW.out
            have hLp : ∀ i j, i < n → j < p → pn j < L i := fun i j hi hj => by have h1 := hHW i hi; have h2 := hpw j hj; omega
            clear hHW
            go_wp2_with (go_at_call 16; refine (zz_project ra B n rc A' L C' K I S none p pc pn width w3 hsrc hP3 hn hp hnp HW.out hpw).mono ?_; rintro e w4 ⟨⟨ga, gc, g, A2, C2, rfl, hgs, hgi, hgn⟩, hb4⟩; have hP4 := ints_kept hP3 hb4; have hR4 := rows_kept hR3 hb4; have hbw4 := hbw3.trans (hb4.mono hbw3.size); have HGI : Hid (Ident p (fun j => (pn j : Int)) width → ga = ra ∧ gc = rc) := hgi; have HGN : Hid (¬ Ident p (fun j => (pn j : Int)) width → ga ≠ none) := hgn; have HRA : Hid (ra = none ↔ a = none) := hran; clear hP3 hR3 hb4 hbw3 hgi hgn hsrc hran)
            go_loopw [10, 11] (fun i _ wr => ∃ k : Nat, k ≤ n ∧ i = .int .i64 k ∧ Below w4.heap.size w4 wr) (fun i _ _ => n - (intOf i).toNat)
            case atStart => exact ⟨0, Nat.zero_le _, rfl, Below.refl _ _⟩
            case round =>
              obtain ⟨k, hk, rfl, hbk⟩ := hrel
              by_cases hlt : k < n
              · obtain ⟨rb, ro, ha, hr⟩ := hR4 (by omega)
                obtain ⟨hga, hsg⟩ := hgs (by omega)
                subst ha hga
                have hck : wr.cell? ⟨g, k, none⟩ = some (.slice (A2 k) p (C2 k)) := (hbk.cell (block_lt_of_cell (hsg.cells k hlt))).trans (hsg.cells k hlt)
                go_wp2
                go_loopw [11] (fun i wr => ∃ m : Nat, m ≤ p ∧ i = .int .i64 m ∧ Below w4.heap.size w4 wr) (fun i _ => p - (intOf i).toNat)
                case atStart => exact ⟨0, Nat.zero_le _, rfl, hbk⟩
                case round =>
                  obtain ⟨m, hm, rfl, hbm⟩ := hrel
                  by_cases hlm : m < p
                  · first
                      | (exfalso; omega)
                      | (obtain ⟨pb, po, hpa, hpc⟩ := ints_cell hP4 hlm
                         subst hpa
                         have hpl := hLp k m hlt hlm
                         obtain ⟨vb, vo, hA2, hv⟩ := hsg.rows k hlt (by omega)
                         obtain ⟨ub, uo, hAk, hu⟩ := (hr k hlt).2 (by omega)
                         have q0 := (hr k hlt).1
                         have q1 := hsg.cells k hlt
                         rw [hAk] at q0
                         rw [hA2] at q1
                         clear hAk hA2
                         obtain ⟨v0, v1, v2⟩ := hv m hlm
                         obtain ⟨u0, u1, u2⟩ := hu (pn m) hpl
                         have s0 : wr.cell? ⟨rb, ro + k, none⟩ = some (.slice (some ⟨ub, uo, none⟩) (L k) (C k)) := (hbm.cell (block_lt_of_cell q0)).trans q0
                         have s1 : wr.cell? ⟨g, k, none⟩ = some (.slice (some ⟨vb, vo, none⟩) p (C2 k)) := (hbm.cell (block_lt_of_cell q1)).trans q1
                         have s2 : wr.cell? ⟨pb, po + m, none⟩ = some (.int .i64 (pn m)) := (hbm.cell (block_lt_of_cell hpc)).trans hpc
                         have s3 : wr.cell? ⟨vb, vo + m * 3, none⟩ = some (.int .u8 (K k (pn m))) := (hbm.cell (block_lt_of_cell v0)).trans v0
                         have s4 : wr.cell? ⟨vb, vo + m * 3 + 1, none⟩ = some (.int .i64 (I k (pn m))) := (hbm.cell (block_lt_of_cell v1)).trans v1
                         have s5 : wr.cell? ⟨vb, vo + m * 3 + 2, none⟩ = some (.string (S k (pn m))) := (hbm.cell (block_lt_of_cell v2)).trans v2
                         have s6 : wr.cell? ⟨ub, uo + pn m * 3, none⟩ = some (.int .u8 (K k (pn m))) := (hbm.cell (block_lt_of_cell u0)).trans u0
                         have s7 : wr.cell? ⟨ub, uo + pn m * 3 + 1, none⟩ = some (.int .i64 (I k (pn m))) := (hbm.cell (block_lt_of_cell u1)).trans u1
                         have s8 : wr.cell? ⟨ub, uo + pn m * 3 + 2, none⟩ = some (.string (S k (pn m))) := (hbm.cell (block_lt_of_cell u2)).trans u2
                         clear v0 v1 v2 u0 u1 u2 q0 q1 hpc hck
                         have t0 := block_lt_of_cell s0
                         have t1 := block_lt_of_cell s1
                         have t2 := block_lt_of_cell s2
                         have t3 := block_lt_of_cell s3
                         have t6 := block_lt_of_cell s6
                         dsimp only at t0 t1 t2 t3 t6
                         have hmp : (m : Int) < (p : Int) := by omega
                         have hkn : (k : Int) < (n : Int) := by omega
                         have hpL : ((pn m : Nat) : Int) < (L k : Int) := by omega
                         go_wp2
                         go_region_held3 (fun w' => w'.cell? ⟨rb, ro + k, none⟩ = some (.slice (some ⟨ub, uo, none⟩) (L k) (C k)) ∧ w'.cell? ⟨g, k, none⟩ = some (.slice (some ⟨vb, vo, none⟩) p (C2 k)) ∧ w'.cell? ⟨pb, po + m, none⟩ = some (.int .i64 (pn m)) ∧ w'.cell? ⟨vb, vo + m * 3, none⟩ = some (.int .u8 (K k (pn m))) ∧ w'.cell? ⟨vb, vo + m * 3 + 1, none⟩ = some (.int .i64 (I k (pn m))) ∧ w'.cell? ⟨vb, vo + m * 3 + 2, none⟩ = some (.string (S k (pn m))) ∧ w'.cell? ⟨ub, uo + pn m * 3, none⟩ = some (.int .u8 (K k (pn m))) ∧ w'.cell? ⟨ub, uo + pn m * 3 + 1, none⟩ = some (.int .i64 (I k (pn m))) ∧ w'.cell? ⟨ub, uo + pn m * 3 + 2, none⟩ = some (.string (S k (pn m)))) (simp [go_sem, World.cell?_alloc_past, *])
                           (first | (go_at_call 17; refine (same_any _ _ _ _).mono ?_; rintro e w' ⟨rfl, rfl⟩))
                         go_wp2
                         go_roundw
                         case rel => exact ⟨m + 1, by omega, by go_num, ((hbm.alloc (by have := hbm.size; omega) _).alloc (by have := hbm.size; simp; omega) _).drew⟩
                         case measure => simp [intOf]; omega)
                  · go_wp2
                    go_roundw
                    case rel => exact ⟨k + 1, by omega, by go_num, hbm⟩
                    case measure => simp [intOf]; omega
              · have hP5 := ints_kept hP4 hbk
                have hbw5 := hbw4.trans (hbk.mono hbw4.size)
                go_wp2_with fail
                refine (ident_any none p pc (fun j => (pn j : Int)) width _ hP5 hp).mono ?_
                rintro e w5 ⟨⟨r, rfl, hrid⟩, rfl⟩
                cases r with
                | true =>
                  obtain ⟨e1, e2⟩ := HGI.out (hrid.1 rfl)
                  subst e1 e2
                  clear hrid
                  have heq := fun wx (q : Option Addr) l c => Lib.run_eql_slice_nil (P := Try.prog) wx 28 32 q l c 0 0 Try.underlying28
                  by_cases hn0 : 0 < n
                  · obtain ⟨hga, _⟩ := hgs hn0
                    subst hga
                    have hn0' : (0 : Int) < (n : Int) := by omega
                    have hps := fun wx => run_neq_ptr_self wx g
                    go_wp2
                    go_quiet (fail)
                    go_wp2
                    go_ret
                    exact ⟨rfl, below_drewN hbw5 _⟩
                  · have hn0' : decide ((0 : Int) < (n : Int)) = false := decide_eq_false (by omega)
                    cases ga with
                    | none =>
                      go_wp2
                      go_quiet (fail)
                      go_wp2
                      go_ret
                      exact ⟨rfl, below_drewN hbw5 _⟩
                    | some q =>
                      go_wp2
                      go_quiet (fail)
                      go_wp2
                      go_ret
                      exact ⟨rfl, below_drewN hbw5 _⟩
                | false =>
                  have hng := HGN.out (fun h => by have := hrid.2 h; cases this)
                  have hne := fun wx (q : Option Addr) l c => run_neq_slice_nil_any (P := Try.prog) wx 28 32 q l c 0 0 Try.underlying28
                  cases ga with
                  | none => exact absurd rfl hng
                  | some q =>
                    clear hrid
                    go_wp2
                    go_ret
                    exact ⟨rfl, hbw5⟩
          | some y =>
            obtain ⟨i3, gi3, gz30, gz31, gz32⟩ := info_parts Try.info3
            have hby : Hid (i3.bytes * p ≤ 281474976710656) := by show _ ≤ _; rw [gz32]; omega
            have hmx : Hid (p ≤ maxLen) := hpm
            go_wp2_with (at_make; refine wpList_make_full _ rfl _ _ 23 rfl _ 3 i3 (.int .i64 0) 1 Try.underlying23 gi3 gz30 gz31 _ _ _ _ p rfl rfl rfl rfl hby.out hmx.out (Nat.le_refl _) ?_; intro w1 hown1 hgrow1; obtain ⟨w2, hcp, hb2, hP2⟩ := copied ((Below.refl _ _).grown hgrow1 (Nat.le_refl _) (fun k h => by cases h)) hown1 hP pc; clear hown1 hgrow1)
            have hRz := rows_kept hR hb2
            generalize (some ⟨w'.heap.size, 0, none⟩ : Option Addr) = pa2 at hP2 ⊢
            clear hP hcp hR
            obtain ⟨pn, hP2n, hpw⟩ := pn_of HP.out hP2
            clear HP hP2
            refine (torows_any a n c A L C K I S _ hRz hF hnil hn24 hL32).mono ?_
            rintro e w3 ⟨⟨ra, rc, B, A', C', rfl, hran, hsrc⟩, hb3⟩
            have hP3 := ints_kept hP2n hb3
            have hR3 := rows_kept hRz hb3
            have hbw3 := hb2.trans (hb3.mono hb2.size)
            clear hP2n hRz hb2 hb3
            have hHW := HW.out
            have hLp : ∀ i j, i < n → j < p → pn j < L i := fun i j hi hj => by have h1 := hHW i hi; have h2 := hpw j hj; omega
            clear hHW
            go_wp2_with (go_at_call 16; refine (zz_project ra B n rc A' L C' K I S pa2 p p pn width w3 hsrc hP3 hn hp hnp HW.out hpw).mono ?_; rintro e w4 ⟨⟨ga, gc, g, A2, C2, rfl, hgs, hgi, hgn⟩, hb4⟩; have hP4 := ints_kept hP3 hb4; have hR4 := rows_kept hR3 hb4; have hbw4 := hbw3.trans (hb4.mono hbw3.size); have HGI : Hid (Ident p (fun j => (pn j : Int)) width → ga = ra ∧ gc = rc) := hgi; have HGN : Hid (¬ Ident p (fun j => (pn j : Int)) width → ga ≠ none) := hgn; have HRA : Hid (ra = none ↔ a = none) := hran; clear hP3 hR3 hb4 hbw3 hgi hgn hsrc hran)
            go_loopw [10, 11] (fun i _ wr => ∃ k : Nat, k ≤ n ∧ i = .int .i64 k ∧ Below w4.heap.size w4 wr) (fun i _ _ => n - (intOf i).toNat)
            case atStart => exact ⟨0, Nat.zero_le _, rfl, Below.refl _ _⟩
            case round =>
              obtain ⟨k, hk, rfl, hbk⟩ := hrel
              by_cases hlt : k < n
              · obtain ⟨rb, ro, ha, hr⟩ := hR4 (by omega)
                obtain ⟨hga, hsg⟩ := hgs (by omega)
                subst ha hga
                have hck : wr.cell? ⟨g, k, none⟩ = some (.slice (A2 k) p (C2 k)) := (hbk.cell (block_lt_of_cell (hsg.cells k hlt))).trans (hsg.cells k hlt)
                go_wp2
                go_loopw [11] (fun i wr => ∃ m : Nat, m ≤ p ∧ i = .int .i64 m ∧ Below w4.heap.size w4 wr) (fun i _ => p - (intOf i).toNat)
                case atStart => exact ⟨0, Nat.zero_le _, rfl, hbk⟩
                case round =>
                  obtain ⟨m, hm, rfl, hbm⟩ := hrel
                  by_cases hlm : m < p
                  · first
                      | (exfalso; omega)
                      | (obtain ⟨pb, po, hpa, hpc⟩ := ints_cell hP4 hlm
                         subst hpa
                         have hpl := hLp k m hlt hlm
                         obtain ⟨vb, vo, hA2, hv⟩ := hsg.rows k hlt (by omega)
                         obtain ⟨ub, uo, hAk, hu⟩ := (hr k hlt).2 (by omega)
                         have q0 := (hr k hlt).1
                         have q1 := hsg.cells k hlt
                         rw [hAk] at q0
                         rw [hA2] at q1
                         clear hAk hA2
                         obtain ⟨v0, v1, v2⟩ := hv m hlm
                         obtain ⟨u0, u1, u2⟩ := hu (pn m) hpl
                         have s0 : wr.cell? ⟨rb, ro + k, none⟩ = some (.slice (some ⟨ub, uo, none⟩) (L k) (C k)) := (hbm.cell (block_lt_of_cell q0)).trans q0
                         have s1 : wr.cell? ⟨g, k, none⟩ = some (.slice (some ⟨vb, vo, none⟩) p (C2 k)) := (hbm.cell (block_lt_of_cell q1)).trans q1
                         have s2 : wr.cell? ⟨pb, po + m, none⟩ = some (.int .i64 (pn m)) := (hbm.cell (block_lt_of_cell hpc)).trans hpc
                         have s3 : wr.cell? ⟨vb, vo + m * 3, none⟩ = some (.int .u8 (K k (pn m))) := (hbm.cell (block_lt_of_cell v0)).trans v0
                         have s4 : wr.cell? ⟨vb, vo + m * 3 + 1, none⟩ = some (.int .i64 (I k (pn m))) := (hbm.cell (block_lt_of_cell v1)).trans v1
                         have s5 : wr.cell? ⟨vb, vo + m * 3 + 2, none⟩ = some (.string (S k (pn m))) := (hbm.cell (block_lt_of_cell v2)).trans v2
                         have s6 : wr.cell? ⟨ub, uo + pn m * 3, none⟩ = some (.int .u8 (K k (pn m))) := (hbm.cell (block_lt_of_cell u0)).trans u0
                         have s7 : wr.cell? ⟨ub, uo + pn m * 3 + 1, none⟩ = some (.int .i64 (I k (pn m))) := (hbm.cell (block_lt_of_cell u1)).trans u1
                         have s8 : wr.cell? ⟨ub, uo + pn m * 3 + 2, none⟩ = some (.string (S k (pn m))) := (hbm.cell (block_lt_of_cell u2)).trans u2
                         clear v0 v1 v2 u0 u1 u2 q0 q1 hpc hck
                         have t0 := block_lt_of_cell s0
                         have t1 := block_lt_of_cell s1
                         have t2 := block_lt_of_cell s2
                         have t3 := block_lt_of_cell s3
                         have t6 := block_lt_of_cell s6
                         dsimp only at t0 t1 t2 t3 t6
                         have hmp : (m : Int) < (p : Int) := by omega
                         have hkn : (k : Int) < (n : Int) := by omega
                         have hpL : ((pn m : Nat) : Int) < (L k : Int) := by omega
                         go_wp2
                         go_region_held3 (fun w' => w'.cell? ⟨rb, ro + k, none⟩ = some (.slice (some ⟨ub, uo, none⟩) (L k) (C k)) ∧ w'.cell? ⟨g, k, none⟩ = some (.slice (some ⟨vb, vo, none⟩) p (C2 k)) ∧ w'.cell? ⟨pb, po + m, none⟩ = some (.int .i64 (pn m)) ∧ w'.cell? ⟨vb, vo + m * 3, none⟩ = some (.int .u8 (K k (pn m))) ∧ w'.cell? ⟨vb, vo + m * 3 + 1, none⟩ = some (.int .i64 (I k (pn m))) ∧ w'.cell? ⟨vb, vo + m * 3 + 2, none⟩ = some (.string (S k (pn m))) ∧ w'.cell? ⟨ub, uo + pn m * 3, none⟩ = some (.int .u8 (K k (pn m))) ∧ w'.cell? ⟨ub, uo + pn m * 3 + 1, none⟩ = some (.int .i64 (I k (pn m))) ∧ w'.cell? ⟨ub, uo + pn m * 3 + 2, none⟩ = some (.string (S k (pn m)))) (simp [go_sem, World.cell?_alloc_past, *])
                           (first | (go_at_call 17; refine (same_any _ _ _ _).mono ?_; rintro e w' ⟨rfl, rfl⟩))
                         go_wp2
                         go_roundw
                         case rel => exact ⟨m + 1, by omega, by go_num, ((hbm.alloc (by have := hbm.size; omega) _).alloc (by have := hbm.size; simp; omega) _).drew⟩
                         case measure => simp [intOf]; omega)
                  · go_wp2
                    go_roundw
                    case rel => exact ⟨k + 1, by omega, by go_num, hbm⟩
                    case measure => simp [intOf]; omega
              · have hP5 := ints_kept hP4 hbk
                have hbw5 := hbw4.trans (hbk.mono hbw4.size)
                go_wp2_with fail
                refine (ident_any pa2 p p (fun j => (pn j : Int)) width _ hP5 hp).mono ?_
                rintro e w5 ⟨⟨r, rfl, hrid⟩, rfl⟩
                cases r with
                | true =>
                  obtain ⟨e1, e2⟩ := HGI.out (hrid.1 rfl)
                  subst e1 e2
                  clear hrid
                  have heq := fun wx (q : Option Addr) l c => Lib.run_eql_slice_nil (P := Try.prog) wx 28 32 q l c 0 0 Try.underlying28
                  by_cases hn0 : 0 < n
                  · obtain ⟨hga, _⟩ := hgs hn0
                    subst hga
                    have hn0' : (0 : Int) < (n : Int) := by omega
                    have hps := fun wx => run_neq_ptr_self wx g
                    go_wp2
                    go_quiet (fail)
                    go_wp2
                    go_ret
                    exact ⟨rfl, below_drewN hbw5 _⟩
                  · have hn0' : decide ((0 : Int) < (n : Int)) = false := decide_eq_false (by omega)
                    cases ga with
                    | none =>
                      go_wp2
                      go_quiet (fail)
                      go_wp2
                      go_ret
                      exact ⟨rfl, below_drewN hbw5 _⟩
                    | some q =>
                      go_wp2
                      go_quiet (fail)
                      go_wp2
                      go_ret
                      exact ⟨rfl, below_drewN hbw5 _⟩
                | false =>
                  have hng := HGN.out (fun h => by have := hrid.2 h; cases this)
                  have hne := fun wx (q : Option Addr) l c => run_neq_slice_nil_any (P := Try.prog) wx 28 32 q l c 0 0 Try.underlying28
                  cases ga with
                  | none => exact absurd rfl hng
                  | some q =>
                    clear hrid
                    go_wp2
                    go_ret
                    exact ⟨rfl, hbw5⟩
end Go.Proofs.Qxb6602738a
