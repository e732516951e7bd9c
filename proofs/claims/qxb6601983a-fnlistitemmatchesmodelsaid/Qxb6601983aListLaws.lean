/-
  THE LAWS FnListItemInterruptingOnlyRefuses AND FnListItemMatchesModel (seat b6601983a): their walks.
-/
import Derived.Test.Qxb6601983aZZList
namespace Go.Proofs.Qxb6601983a
open Go.RowKit Plain

set_option maxHeartbeats 400000 in
theorem bytes25_yes (a : Option Addr) (n c : Nat) (i j : Int) (w : World) (hn : n ≤ 1048576) :
    Calls Try.prog 25 #[.slice a n c, .int .i64 i, .int .i64 j] w fun e w' => e = .returned (.bool true) ∧ w' = w := by
  go_enter Try.func25, Try.ntmps25
  go_wp2
  go_ret
  exact ⟨rfl, rfl⟩

set_option maxHeartbeats 400000 in
theorem bytes25_no (a : Option Addr) (n c : Nat) (i j : Int) (w : World) (hn : 1048576 < n) :
    Calls Try.prog 25 #[.slice a n c, .int .i64 i, .int .i64 j] w fun e w' => e = .returned (.bool false) ∧ w' = w := by
  go_enter Try.func25, Try.ntmps25
  go_wp2
  go_ret
  exact ⟨rfl, rfl⟩

set_option maxHeartbeats 400000 in
theorem bytes21_yes (a : Option Addr) (n c : Nat) (i j : Int) (b : Bool) (w : World) (hn : n ≤ 1048576) :
    Calls Try.prog 21 #[.slice a n c, .int .i64 i, .int .i64 j, .bool b] w fun e w' => e = .returned (.bool true) ∧ w' = w := by
  go_enter Try.func21, Try.ntmps21
  go_wp2
  go_ret
  exact ⟨rfl, rfl⟩

set_option maxHeartbeats 400000 in
theorem bytes21_no (a : Option Addr) (n c : Nat) (i j : Int) (b : Bool) (w : World) (hn : 1048576 < n) :
    Calls Try.prog 21 #[.slice a n c, .int .i64 i, .int .i64 j, .bool b] w fun e w' => e = .returned (.bool false) ∧ w' = w := by
  go_enter Try.func21, Try.ntmps21
  go_wp2
  go_ret
  exact ⟨rfl, rfl⟩

/-- The two answers, asked with and without 'interrupting'. -/
theorem li_two (z : Nat → Int) (n pos : Nat) (col : Int) (f : Nat) (F : Int) (W : Nat) (one : Bool) (nx : Nat) (X : Int) :
    (liF z n pos col true f F W one nx X = liF z n pos col false f F W one nx X ∧ (liF z n pos col false f F W one nx X).ok = true) ∨
    (liF z n pos col true f F W one nx X = refuse pos col f F ∧ liF z n pos col false f F W one nx X = refuse pos col f F) ∨
    (liF z n pos col true f F W one nx X = refuse pos col f F ∧ (liF z n pos col false f F W one nx X).ok = true ∧ (liF z n pos col false f F W one nx X).item = true) := by
  have hyes : W ≠ 0 → ¬ (nx < n ∧ X = F + W) → (liF z n pos col false f F W one nx X).ok = true ∧ (liF z n pos col false f F W one nx X).item = true := by
    intro h0 h1
    unfold liF
    rw [if_neg h0, if_neg h1, if_neg (by simp)]
    split
    · exact ⟨rfl, rfl⟩
    · split <;> exact ⟨rfl, rfl⟩
  by_cases h0 : W = 0
  · exact .inr (.inl ⟨li_none h0, li_none h0⟩)
  by_cases h1 : nx < n ∧ X = F + W
  · exact .inr (.inl ⟨li_tight h0 h1, li_tight h0 h1⟩)
  by_cases h2 : nx = n ∨ one = false
  · exact .inr (.inr ⟨li_intr h0 h1 ⟨rfl, h2⟩, hyes h0 h1⟩)
  · refine .inl ⟨?_, (hyes h0 h1).1⟩
    unfold liF
    rw [if_neg h0, if_neg h1, if_neg (show ¬ (true = true ∧ (nx = n ∨ one = false)) from fun h => h2 h.2), if_neg (show ¬ (false = true ∧ (nx = n ∨ one = false)) from fun h => by cases h.1), if_neg h0, if_neg h1]

/-- All that a law over list items chooses once for its input. -/
structure Pick (z : Nat → Int) (n pos : Nat) (col : Int) (f d W : Nat) (one : Bool) (nx : Nat) (F X : Int) : Prop where
  hf : SkipEnd z n pos f
  hd : DigEnd z n f d
  hW : markW z n f d = W
  hO : markO z n f d = one
  hF : colAt z pos col f = F
  hX : colAt z (f + W) (F + W) nx = X
  hnx : SkipEnd z n (f + W) nx
  hW10 : W ≤ 10
  hfW : f + W ≤ n
  hF0 : 0 ≤ F
  hF1 : F ≤ 280000000
  hX0 : F + W ≤ X
  hX1 : X ≤ 290000000

theorem pick_exists (z : Nat → Int) (n pos : Nat) (col : Int) (f : Nat) (hn : n ≤ 1048576) (hf : SkipEnd z n pos f) (hfn : f < n) (hc0 : 0 ≤ col) (hc1 : col ≤ 268435456) : ∃ d W one nx F X, Pick z n pos col f d W one nx F X := by
  obtain ⟨d, hd⟩ := dig_exists z n f (by omega)
  have hw := markW_bd (z := z) (d := d) hfn
  obtain ⟨nx, hnx⟩ := skip_exists z n (f + markW z n f d) hw.2
  have b1 := colAt_bd z pos col f hf.1
  have h2 := hf.1
  have b2 := colAt_bd z (f + markW z n f d) (colAt z pos col f + (markW z n f d : Nat)) nx hnx.1
  have h3 := hnx.1
  have h4 := hnx.2.1
  exact ⟨d, _, _, nx, _, _, hf, hd, rfl, rfl, rfl, rfl, hnx, hw.1, hw.2, by omega, by omega, by omega, by omega⟩

theorem Pick.zz {z : Nat → Int} {n pos : Nat} {col : Int} {f d W : Nat} {one : Bool} {nx : Nat} {F X : Int} (h : Pick z n pos col f d W one nx F X) (hfn : f < n) (hn : n ≤ 1048576) (hc0 : 0 ≤ col) (hc1 : col ≤ 268435456) (b off c : Nat) (hnc : n ≤ c) (w : World)
    (hc : ∀ j, j < n → w.cell? ⟨b, off + j, none⟩ = some (.int .u8 (z j))) (intr : Bool) (t : Li) (ht : liF z n pos col intr f F W one nx X = t) :
    Calls Try.prog 23 #[.slice (some ⟨b, off, none⟩) n c, .int .i64 pos, .int .i64 col, .bool intr] w fun e w' => LiEnd t e ∧ Below w.heap.size w w' := by
  subst ht
  exact zz_any b off n c z w hc hn hnc pos f d W nx col F X intr one hfn h.hf h.hd h.hW h.hO h.hF h.hX h.hnx hc0 hc1 h.hW10 h.hF0 h.hF1 h.hX0 h.hX1

theorem Pick.model {z : Nat → Int} {n pos : Nat} {col : Int} {f d W : Nat} {one : Bool} {nx : Nat} {F X : Int} (h : Pick z n pos col f d W one nx F X) (hfn : f < n) (hn : n ≤ 1048576) (hc0 : 0 ≤ col) (hc1 : col ≤ 268435456) (b off c : Nat) (w : World)
    (hc : ∀ j, j < n → w.cell? ⟨b, off + j, none⟩ = some (.int .u8 (z j))) (intr : Bool) (t : Li) (ht : liF z n pos col intr f F W one nx X = t) :
    Calls Try.prog 24 #[.slice (some ⟨b, off, none⟩) n c, .int .i64 pos, .int .i64 col, .bool intr] w fun e w' => LiEnd t e ∧ w' = w := by
  subst ht
  exact model_li b off n c z w hc hn pos f d W nx col F X intr one hfn h.hf h.hd h.hW h.hO h.hnx h.hF h.hX hc0 hc1 h.hF0 h.hF1 h.hW10 h.hfW h.hnx.1 h.hnx.2.1 h.hX0 h.hX1

/-- The copied text, behind the copy and behind whatever keeps it. -/
structure Text (w w1 : World) (n : Nat) (z : Nat → Int) : Prop where
  below : Below w.heap.size w w1
  lt : w.heap.size < w1.heap.size
  cells : ∀ j, j < n → w1.cell? ⟨w.heap.size, 0 + j, none⟩ = some (.int .u8 (z j))

theorem text_of {w w1 : World} {n : Nat} {z : Nat → Int} (hb : Below w.heap.size w w1) (hf : Filled w.heap.size n z w1 n) (hn : 0 < n) : Text w w1 n z := by
  obtain ⟨xs, ho, hl, hx⟩ := hf
  have hc : ∀ j, j < n → w1.cell? ⟨w.heap.size, 0 + j, none⟩ = some (.int .u8 (z j)) := fun j hj => by rw [Nat.zero_add, ho.cellAt j (by omega)]; exact hx j hj
  exact ⟨hb, block_lt_of_cell (hc 0 hn), hc⟩

theorem Text.next {w w1 w2 : World} {n : Nat} {z : Nat → Int} (h : Text w w1 n z) (hb : Below w1.heap.size w1 w2) : Text w w2 n z :=
  ⟨h.below.trans (hb.mono (by have := h.lt; omega)), by have := h.lt; have := hb.size; omega, fun j hj => (hb.cell (by exact h.lt)).trans (h.cells j hj)⟩

set_option maxHeartbeats 1600000 in
theorem match_main (b off n c : Nat) (z : Nat → Int) (pos f : Nat) (col : Int) (intr : Bool) (w : World) (hc : ∀ j, j < n → w.cell? ⟨b, off + j, none⟩ = some (.int .u8 (z j))) (hn : n ≤ 1048576) (hp : pos ≤ n) (hf : SkipEnd z n pos f) (hfn : f < n) (hc0 : 0 ≤ col) (hc1 : col ≤ 268435456) :
    Calls Try.prog 7 #[.slice (some ⟨b, off, none⟩) n c, .int .i64 pos, .int .i64 col, .bool intr] w fun e w' => e = .returned (.bool true) ∧ Below w.heap.size w w' := by
  obtain ⟨d, W, one, nx, F, X, hP⟩ := pick_exists z n pos col f hn hf hfn hc0 hc1
  obtain ⟨t, ht⟩ : ∃ t, liF z n pos col intr f F W one nx X = t := ⟨_, rfl⟩
  have HT : Hid (liF z n pos col intr f F W one nx X = t) := ht
  have hB : Bs w (some ⟨b, off, none⟩) n z := fun _ => ⟨b, off, rfl, hc⟩
  have hn0 : 0 < n := by omega
  clear ht
  go_enter Try.func7, Try.ntmps7
  go_wp2_with (first
    | (go_at_call 21; refine (bytes21_yes _ _ _ _ _ _ _ hn).mono ?_; rintro e w' ⟨rfl, rfl⟩)
    | (go_at_call 22; refine (has_any b off n c z _ hc hn pos f hf).mono ?_; rintro e w' ⟨rfl, rfl⟩)
    | (go_at_call 11; refine (copy_some _ n c z _ hB hn).mono ?_; rintro e w1 ⟨rfl, hb1, hf1⟩; have hT1 := text_of hb1 hf1 hn0; clear hb1 hf1)
    | (go_at_call 23; refine (hP.zz hfn hn hc0 hc1 _ 0 n (Nat.le_refl _) _ hT1.cells intr t HT.out).mono ?_; rintro e w2 ⟨rfl, hb2⟩; have hT2 := hT1.next hb2; clear hb2)
    | (go_at_call 24; refine (hP.model hfn hn hc0 hc1 _ 0 n _ hT2.cells intr t HT.out).mono ?_; rintro e w3 ⟨rfl, rfl⟩))
  go_ret
  exact ⟨rfl, hT2.below⟩

set_option maxHeartbeats 1600000 in
theorem match_law (a : Option Addr) (n c : Nat) (z : Nat → Int) (pos col : Int) (intr : Bool) (w : World) (hB : Bs w a n z) :
    Calls Try.prog 7 #[.slice a n c, .int .i64 pos, .int .i64 col, .bool intr] w fun e w' => e = .returned (.bool true) ∧ Below w.heap.size w w' := by
  by_cases hn : n ≤ 1048576
  · by_cases h1 : pos < 0
    · go_enter Try.func7, Try.ntmps7
      go_wp2_with (go_at_call 21; refine (bytes21_yes _ _ _ _ _ _ _ hn).mono ?_; rintro e w' ⟨rfl, rfl⟩)
      go_ret
      exact ⟨rfl, Below.refl _ _⟩
    by_cases h2 : (n : Int) < pos
    · go_enter Try.func7, Try.ntmps7
      go_wp2_with (go_at_call 21; refine (bytes21_yes _ _ _ _ _ _ _ hn).mono ?_; rintro e w' ⟨rfl, rfl⟩)
      go_ret
      exact ⟨rfl, Below.refl _ _⟩
    by_cases h3 : col < 0
    · go_enter Try.func7, Try.ntmps7
      go_wp2_with (go_at_call 21; refine (bytes21_yes _ _ _ _ _ _ _ hn).mono ?_; rintro e w' ⟨rfl, rfl⟩)
      go_ret
      exact ⟨rfl, Below.refl _ _⟩
    by_cases h4 : 268435456 < col
    · go_enter Try.func7, Try.ntmps7
      go_wp2_with (go_at_call 21; refine (bytes21_yes _ _ _ _ _ _ _ hn).mono ?_; rintro e w' ⟨rfl, rfl⟩)
      go_ret
      exact ⟨rfl, Below.refl _ _⟩
    obtain ⟨p, rfl⟩ : ∃ p : Nat, pos = p := ⟨pos.toNat, by omega⟩
    by_cases h5 : p = n
    · have h6 : (n : Int) ≤ (p : Int) := by omega
      clear h5
      go_enter Try.func7, Try.ntmps7
      go_wp2_with (first
        | (go_at_call 21; refine (bytes21_yes _ _ _ _ _ _ _ hn).mono ?_; rintro e w' ⟨rfl, rfl⟩)
        | (go_at_call 22; refine (has_none _ _ _ _ _ h6).mono ?_; rintro e w' ⟨rfl, rfl⟩))
      go_ret
      exact ⟨rfl, Below.refl _ _⟩
    obtain ⟨b, off, rfl, hc⟩ := hB (by omega)
    obtain ⟨f, hf⟩ := skip_exists z n p (by omega)
    by_cases hfn : f < n
    · exact match_main b off n c z p f col intr w hc hn (by omega) hf hfn (by omega) (by omega)
    · have hno : decide (f < n) = false := by simpa using hfn
      go_enter Try.func7, Try.ntmps7
      go_wp2_with (first
        | (go_at_call 21; refine (bytes21_yes _ _ _ _ _ _ _ hn).mono ?_; rintro e w' ⟨rfl, rfl⟩)
        | (go_at_call 22; refine (has_any b off n c z _ hc hn p f hf).mono ?_; rintro e w' ⟨rfl, rfl⟩))
      go_ret
      exact ⟨rfl, Below.refl _ _⟩
  · go_enter Try.func7, Try.ntmps7
    go_wp2_with (go_at_call 21; refine (bytes21_no _ _ _ _ _ _ _ (by omega)).mono ?_; rintro e w' ⟨rfl, rfl⟩)
    go_ret
    exact ⟨rfl, Below.refl _ _⟩

set_option maxHeartbeats 3200000 in
set_option maxRecDepth 100000 in
theorem only_main (b off n c : Nat) (z : Nat → Int) (pos f : Nat) (col : Int) (w : World) (hc : ∀ j, j < n → w.cell? ⟨b, off + j, none⟩ = some (.int .u8 (z j))) (hn : n ≤ 1048576) (hp : pos ≤ n) (hf : SkipEnd z n pos f) (hfn : f < n) (hc0 : 0 ≤ col) (hc1 : col ≤ 268435456) :
    Calls Try.prog 8 #[.slice (some ⟨b, off, none⟩) n c, .int .i64 pos, .int .i64 col] w fun e w' => e = .returned (.bool true) ∧ Below w.heap.size w w' := by
  obtain ⟨d, W, one, nx, F, X, hP⟩ := pick_exists z n pos col f hn hf hfn hc0 hc1
  have hB : Bs w (some ⟨b, off, none⟩) n z := fun _ => ⟨b, off, rfl, hc⟩
  have hn0 : 0 < n := by omega
  have hpf := hf.1
  obtain ⟨_, _, g32, g9⟩ := blank_not (hf.2.2.2 hfn)
  obtain ⟨t1, ht1⟩ : ∃ t, liF z n pos col true f F W one nx X = t := ⟨_, rfl⟩
  obtain ⟨t2, ht2⟩ : ∃ t, liF z n pos col false f F W one nx X = t := ⟨_, rfl⟩
  have h2 := li_two z n pos col f F W one nx X
  rw [ht1, ht2] at h2
  have HT1 : Hid (liF z n pos col true f F W one nx X = t1) := ht1
  have HT2 : Hid (liF z n pos col false f F W one nx X = t2) := ht2
  clear ht1 ht2
  rcases h2 with ⟨rfl, hok⟩ | ⟨rfl, rfl⟩ | ⟨rfl, hok, hit⟩
  · go_enter Try.func8, Try.ntmps8
    go_wp2_with (first
      | (go_at_call 25; refine (bytes25_yes _ _ _ _ _ _ hn).mono ?_; rintro e w' ⟨rfl, rfl⟩)
      | (go_at_call 22; refine (has_any b off n c z _ hc hn pos f hf).mono ?_; rintro e w' ⟨rfl, rfl⟩)
      | (go_at_call 11; refine (copy_some _ n c z _ hB hn).mono ?_; rintro e w1 ⟨rfl, hb1, hf1⟩; have hT1 := text_of hb1 hf1 hn0; clear hb1 hf1)
      | (go_at_call_of 23 true; refine (hP.zz hfn hn hc0 hc1 _ 0 n (Nat.le_refl _) _ hT1.cells true t1 HT1.out).mono ?_; rintro e w2 ⟨rfl, hb2⟩; have hT2 := hT1.next hb2; clear hb2)
      | (go_at_call_of 23 false; refine (hP.zz hfn hn hc0 hc1 _ 0 n (Nat.le_refl _) _ hT2.cells false t1 HT2.out).mono ?_; rintro e w3 ⟨rfl, hb3⟩; have hT3 := hT2.next hb3; clear hb3))
    go_ret
    exact ⟨rfl, hT3.below⟩
  · go_enter Try.func8, Try.ntmps8
    unfold refuse at HT1 HT2
    go_wp2_with (first
      | (go_at_call 25; refine (bytes25_yes _ _ _ _ _ _ hn).mono ?_; rintro e w' ⟨rfl, rfl⟩)
      | (go_at_call 22; refine (has_any b off n c z _ hc hn pos f hf).mono ?_; rintro e w' ⟨rfl, rfl⟩)
      | (go_at_call 11; refine (copy_some _ n c z _ hB hn).mono ?_; rintro e w1 ⟨rfl, hb1, hf1⟩; have hT1 := text_of hb1 hf1 hn0; clear hb1 hf1)
      | (go_at_call_of 23 true; refine (hP.zz hfn hn hc0 hc1 _ 0 n (Nat.le_refl _) _ hT1.cells true _ HT1.out).mono ?_; rintro e w2 ⟨rfl, hb2⟩; have hT2 := hT1.next hb2; clear hb2)
      | (go_at_call_of 23 false; refine (hP.zz hfn hn hc0 hc1 _ 0 n (Nat.le_refl _) _ hT2.cells false _ HT2.out).mono ?_; rintro e w3 ⟨rfl, hb3⟩; have hT3 := hT2.next hb3; clear hb3; have hcf := hT3.cells f hfn; simp only [Nat.zero_add] at hcf))
    go_ret
    exact ⟨rfl, hT3.below⟩
  · go_enter Try.func8, Try.ntmps8
    unfold refuse at HT1
    go_wp2_with (first
      | (go_at_call 25; refine (bytes25_yes _ _ _ _ _ _ hn).mono ?_; rintro e w' ⟨rfl, rfl⟩)
      | (go_at_call 22; refine (has_any b off n c z _ hc hn pos f hf).mono ?_; rintro e w' ⟨rfl, rfl⟩)
      | (go_at_call 11; refine (copy_some _ n c z _ hB hn).mono ?_; rintro e w1 ⟨rfl, hb1, hf1⟩; have hT1 := text_of hb1 hf1 hn0; clear hb1 hf1)
      | (go_at_call_of 23 true; refine (hP.zz hfn hn hc0 hc1 _ 0 n (Nat.le_refl _) _ hT1.cells true _ HT1.out).mono ?_; rintro e w2 ⟨rfl, hb2⟩; have hT2 := hT1.next hb2; clear hb2)
      | (go_at_call_of 23 false; refine (hP.zz hfn hn hc0 hc1 _ 0 n (Nat.le_refl _) _ hT2.cells false t2 HT2.out).mono ?_; rintro e w3 ⟨rfl, hb3⟩; have hT3 := hT2.next hb3; clear hb3; have hcf := hT3.cells f hfn; simp only [Nat.zero_add] at hcf))
    go_ret
    exact ⟨rfl, hT3.below⟩

set_option maxHeartbeats 1600000 in
set_option maxRecDepth 100000 in
theorem only_law (a : Option Addr) (n c : Nat) (z : Nat → Int) (pos col : Int) (w : World) (hB : Bs w a n z) :
    Calls Try.prog 8 #[.slice a n c, .int .i64 pos, .int .i64 col] w fun e w' => e = .returned (.bool true) ∧ Below w.heap.size w w' := by
  by_cases hn : n ≤ 1048576
  · by_cases h1 : pos < 0
    · go_enter Try.func8, Try.ntmps8
      go_wp2_with (go_at_call 25; refine (bytes25_yes _ _ _ _ _ _ hn).mono ?_; rintro e w' ⟨rfl, rfl⟩)
      go_ret
      exact ⟨rfl, Below.refl _ _⟩
    by_cases h2 : (n : Int) < pos
    · go_enter Try.func8, Try.ntmps8
      go_wp2_with (go_at_call 25; refine (bytes25_yes _ _ _ _ _ _ hn).mono ?_; rintro e w' ⟨rfl, rfl⟩)
      go_ret
      exact ⟨rfl, Below.refl _ _⟩
    by_cases h3 : col < 0
    · go_enter Try.func8, Try.ntmps8
      go_wp2_with (go_at_call 25; refine (bytes25_yes _ _ _ _ _ _ hn).mono ?_; rintro e w' ⟨rfl, rfl⟩)
      go_ret
      exact ⟨rfl, Below.refl _ _⟩
    by_cases h4 : 268435456 < col
    · go_enter Try.func8, Try.ntmps8
      go_wp2_with (go_at_call 25; refine (bytes25_yes _ _ _ _ _ _ hn).mono ?_; rintro e w' ⟨rfl, rfl⟩)
      go_ret
      exact ⟨rfl, Below.refl _ _⟩
    obtain ⟨p, rfl⟩ : ∃ p : Nat, pos = p := ⟨pos.toNat, by omega⟩
    by_cases h5 : p = n
    · have h6 : (n : Int) ≤ (p : Int) := by omega
      clear h5
      go_enter Try.func8, Try.ntmps8
      go_wp2_with (first
        | (go_at_call 25; refine (bytes25_yes _ _ _ _ _ _ hn).mono ?_; rintro e w' ⟨rfl, rfl⟩)
        | (go_at_call 22; refine (has_none _ _ _ _ _ h6).mono ?_; rintro e w' ⟨rfl, rfl⟩))
      go_ret
      exact ⟨rfl, Below.refl _ _⟩
    obtain ⟨b, off, rfl, hc⟩ := hB (by omega)
    obtain ⟨f, hf⟩ := skip_exists z n p (by omega)
    by_cases hfn : f < n
    · exact only_main b off n c z p f col w hc hn (by omega) hf hfn (by omega) (by omega)
    · have hno : decide (f < n) = false := by simpa using hfn
      go_enter Try.func8, Try.ntmps8
      go_wp2_with (first
        | (go_at_call 25; refine (bytes25_yes _ _ _ _ _ _ hn).mono ?_; rintro e w' ⟨rfl, rfl⟩)
        | (go_at_call 22; refine (has_any b off n c z _ hc hn p f hf).mono ?_; rintro e w' ⟨rfl, rfl⟩))
      go_ret
      exact ⟨rfl, Below.refl _ _⟩
  · go_enter Try.func8, Try.ntmps8
    go_wp2_with (go_at_call 25; refine (bytes25_no _ _ _ _ _ _ (by omega)).mono ?_; rintro e w' ⟨rfl, rfl⟩)
    go_ret
    exact ⟨rfl, Below.refl _ _⟩
end Go.Proofs.Qxb6601983a
