/-
  listItem WHOLE, AND ZZListItem (seat b6601983a).
-/
import Derived.Test.Qxb6601983aListItem3
import Derived.Test.Qxb6601983aListModel
namespace Go.Proofs.Qxb6601983a
open Go.RowKit Plain

theorem drewN_below {B : Nat} {a w : World} (h : Below B a w) (m : Nat) : Below B a (w.drewN m) := ⟨h.os, h.tape, h.output, h.size, h.block⟩

/-- A call's ending: the container and ok. -/
def ItEnd (t : Li) (e : Ending) : Prop := e = .returned (.tuple #[.agg #[.bool t.item, .int .i64 t.off, .bool t.filled], .bool t.ok])

theorem adv_short (p b off n c : Nat) (z : Nat → Int) (hbp : b ≠ p) (hn : n ≤ 1048576) (f W nx : Nat) (F X : Int) (h1 : f + W ≤ nx) (h2 : nx ≤ n) (hF : 0 ≤ F + W) (hX1 : X ≤ 300000000) (hX : colAt z (f + W) (F + W) nx = X) (first fc : Int) :
    Adv p b off n c z ((f : Int) + W) (F + W) first fc (X - (F + W)) nx X := by
  intro w4 hT hL
  rw [show (f : Int) + W = ((f + W : Nat) : Int) from by simp] at hL
  exact advance_to p b off n c z w4 hT hbp (f + W) nx (F + W) first fc X hL h1 h2 hF hX1 hX hn _ rfl

theorem adv_one (p b off n c : Nat) (z : Nat → Int) (hbp : b ≠ p) (hn : n ≤ 1048576) (f W : Nat) (F : Int) (h2 : f + W < n) (hF : 0 ≤ F + W) (hF1 : F + W ≤ 290000000) (hs : stepc (F + W) (z (f + W)) = F + W + 1) (first fc : Int) :
    Adv p b off n c z ((f : Int) + W) (F + W) first fc 1 ((f : Int) + W + 1) (F + W + 1) := by
  intro w4 hT hL
  rw [show (f : Int) + W = ((f + W : Nat) : Int) from by simp] at hL ⊢
  have := advance_to p b off n c z w4 hT hbp (f + W) (f + W + 1) (F + W) first fc (F + W + 1) hL (by omega) (by omega) hF (by omega) (by show _ = _; rw [colAt_succ z (f + W) (F + W) (f + W) (Nat.le_refl _), colAt_self]; exact hs) hn 1 (by show _ = _; omega)
  simpa using this

theorem adv_part (p b off n c : Nat) (z : Nat → Int) (f W : Nat) (F : Int) (h2 : f + W < n) (hF : 0 ≤ F + W) (hF1 : F + W ≤ 290000000) (hs : 1 < stepc (F + W) (z (f + W)) - (F + W)) (first fc : Int) :
    Adv p b off n c z ((f : Int) + W) (F + W) first fc 1 ((f : Int) + W) (F + W + 1) := by
  intro w4 hT hL
  rw [show (f : Int) + W = ((f + W : Nat) : Int) from by simp] at hL ⊢
  exact advance_in p b off n c z w4 hT (f + W) (F + W) first fc hL h2 hF (by omega) hs

theorem item_any (L b off n c : Nat) (z : Nat → Int) (w : World) (hc : ∀ j, j < n → w.cell? ⟨b, off + j, none⟩ = some (.int .u8 (z j))) (hn : n ≤ 1048576) (hnc : n ≤ c) (hbL : b ≠ L)
    (pos f d W nx : Nat) (col F X fc0 : Int) (intr one : Bool) (hL : LineAt w L (.slice (some ⟨b, off, none⟩) n c) pos col (-1) fc0) (hfn : f < n) (hf : SkipEnd z n pos f) (hd : DigEnd z n f d) (hW : markW z n f d = W) (hO : markO z n f d = one)
    (hF : colAt z pos col f = F) (hX : colAt z (f + W) (F + W) nx = X) (hnx : SkipEnd z n (f + W) nx) (hc0 : 0 ≤ col) (hc1 : col ≤ 268435456) (hW10 : W ≤ 10) (hF0 : 0 ≤ F) (hF1 : F ≤ 280000000) (hX0 : F + W ≤ X) (hX1 : X ≤ 290000000) :
    Calls Try.prog 30 #[.pointer (some ⟨L, 0, none⟩), .bool intr] w fun e w' => ∃ t, t = liF z n pos col intr f F W one nx X ∧ ItEnd t e ∧ LineAt w' L (.slice (some ⟨b, off, none⟩) n c) t.pos t.col t.first t.fcol ∧ w.grownBy w' (some L) := by
  have hbw : b < w.heap.size := block_lt_of_cell (hc f hfn)
  by_cases hW0 : W = 0
  · subst hW0
    refine (item_none L b off n c z w hc hn hnc hbL pos f d col F fc0 intr one hL hfn hf hd hW hO hF hc0 hc1).mono ?_
    rintro e w' ⟨rfl, h1, h2⟩
    exact ⟨_, (li_none rfl).symm, rfl, h1, h2⟩
  by_cases ht : nx < n ∧ X = F + W
  · refine (item_refuse L b off n c z w hc hn hnc hbL pos f d W nx col F X fc0 intr one hL hfn hf hd hW hO hF hX hnx hc0 hc1 hW0 hW10 hF0 hF1 hX0 hX1 (.inl ht)).mono ?_
    rintro e w' ⟨rfl, h1, h2⟩
    exact ⟨_, (li_tight hW0 ht).symm, rfl, h1, h2⟩
  have hnxn := hnx.2.1
  by_cases hi : intr = true ∧ (nx = n ∨ one = false)
  · refine (item_refuse L b off n c z w hc hn hnc hbL pos f d W nx col F X fc0 intr one hL hfn hf hd hW hO hF hX hnx hc0 hc1 hW0 hW10 hF0 hF1 hX0 hX1 (.inr ⟨hi.1, ?_⟩)).mono ?_
    · rcases hi.2 with h | h
      · exact .inl h
      · by_cases hh : nx = n
        · exact .inl hh
        · exact .inr ⟨by omega, fun hx => ht ⟨by omega, hx⟩, h⟩
    · rintro e w' ⟨rfl, h1, h2⟩
      exact ⟨_, (li_intr hW0 ht hi).symm, rfl, h1, h2⟩
  by_cases hb : nx = n
  · have hif : intr = false := by
      cases intr with
      | true => exact absurd ⟨rfl, .inl hb⟩ hi
      | false => rfl
    subst hif
    refine (item_blank L b off n c z w hc hn hnc hbL pos f d W nx col F X fc0 one hL hfn hf hd hW hO hF hX hnx hc0 hc1 hW0 hW10 hF0 hF1 hX0 hX1 hb).mono ?_
    rintro e w' ⟨rfl, h1, h2⟩
    exact ⟨_, (li_blank hW0 hi hb).symm, rfl, h1, h2⟩
  have hlt : nx < n := by omega
  have hne : X ≠ F + W := fun hx => ht ⟨hlt, hx⟩
  have hio : intr = true → one = true := fun h => by
    cases one with
    | true => rfl
    | false => exact absurd ⟨h, .inr rfl⟩ hi
  have hfx : f + W ≤ nx := hnx.1
  have hfx2 : f + W ≠ nx := by
    intro e
    apply hne
    rw [← hX, ← e, colAt_self]
  have hbl : blankB (z (f + W)) = true := hnx.2.2.1 (f + W) (Nat.le_refl _) (by omega)
  by_cases h4 : X - (F + W) ≤ 4
  · refine (item_short L b off n c z w hc hn hnc hbL pos f d W nx col F X fc0 intr one hL hfn hf hd hW hO hF hX hnx hc0 hc1 hW0 hW10 hF0 hF1 hX0 hX1 hlt hne h4 hio nx X
      (adv_short (w.heap.size + 1) b off n c z (by omega) hn f W nx F X hfx hnxn (by omega) (by omega) hX nx X)).mono ?_
    rintro e w' ⟨rfl, h1, h2⟩
    exact ⟨_, (li_short hW0 ht hi hb h4).symm, rfl, h1, h2⟩
  · by_cases hz : z (f + W) = 32 ∨ (F + W) % 4 = 3
    · have hs : stepc (F + W) (z (f + W)) = F + W + 1 := by
        rcases hz with h | h
        · rw [h]; exact stepc_other (by decide)
        · rcases blank_parts hbl with g | g
          · rw [g]; exact stepc_other (by decide)
          · rw [g, stepc_tab]; omega
      refine (item_long L b off n c z w hc hn hnc hbL pos f d W nx col F X fc0 intr one hL hfn hf hd hW hO hF hX hnx hc0 hc1 hW0 hW10 hF0 hF1 hX0 hX1 hlt hne (by omega) hio _ _
        (adv_one (w.heap.size + 1) b off n c z (by omega) hn f W F (by omega) (by omega) (by omega) hs nx X)).mono ?_
      rintro e w' ⟨rfl, h1, h2⟩
      exact ⟨⟨true, F + W + 1 - col, false, true, (f : Int) + W + 1, F + W + 1, nx, X⟩, ((li_long hW0 hi hb h4).trans (by rw [if_pos hz])).symm, rfl, h1, h2⟩
    · have hs : 1 < stepc (F + W) (z (f + W)) - (F + W) := by
        rcases blank_parts hbl with g | g
        · exact absurd (.inl g) hz
        · have : (F + W) % 4 ≠ 3 := fun h => hz (.inr h)
          rw [g, stepc_tab]; omega
      refine (item_long L b off n c z w hc hn hnc hbL pos f d W nx col F X fc0 intr one hL hfn hf hd hW hO hF hX hnx hc0 hc1 hW0 hW10 hF0 hF1 hX0 hX1 hlt hne (by omega) hio _ _
        (adv_part (w.heap.size + 1) b off n c z f W F (by omega) (by omega) (by omega) hs nx X)).mono ?_
      rintro e w' ⟨rfl, h1, h2⟩
      exact ⟨⟨true, F + W + 1 - col, false, true, (f : Int) + W, F + W + 1, nx, X⟩, ((li_long hW0 hi hb h4).trans (by rw [if_neg hz])).symm, rfl, h1, h2⟩

set_option maxHeartbeats 1600000 in
/-- ZZListItem. -/
theorem zz_any (b off n c : Nat) (z : Nat → Int) (w : World) (hc : ∀ j, j < n → w.cell? ⟨b, off + j, none⟩ = some (.int .u8 (z j))) (hn : n ≤ 1048576) (hnc : n ≤ c)
    (pos f d W nx : Nat) (col F X : Int) (intr one : Bool) (hfn : f < n) (hf : SkipEnd z n pos f) (hd : DigEnd z n f d) (hW : markW z n f d = W) (hO : markO z n f d = one)
    (hF : colAt z pos col f = F) (hX : colAt z (f + W) (F + W) nx = X) (hnx : SkipEnd z n (f + W) nx) (hc0 : 0 ≤ col) (hc1 : col ≤ 268435456) (hW10 : W ≤ 10) (hF0 : 0 ≤ F) (hF1 : F ≤ 280000000) (hX0 : F + W ≤ X) (hX1 : X ≤ 290000000) :
    Calls Try.prog 23 #[.slice (some ⟨b, off, none⟩) n c, .int .i64 pos, .int .i64 col, .bool intr] w fun e w' => LiEnd (liF z n pos col intr f F W one nx X) e ∧ Below w.heap.size w w' := by
  have hbw : b < w.heap.size := block_lt_of_cell (hc f hfn)
  have hcA : ∀ o j, j < n → (w.alloc o).cell? ⟨b, off + j, none⟩ = some (.int .u8 (z j)) := fun o j hj => by rw [World.cell?_alloc_past o b _ hbw]; exact hc j hj
  have hL0 : LineAt (w.alloc (.cells #[.slice (some ⟨b, off, none⟩) n c, .int .i64 pos, .int .i64 col, .int .i64 (-1), .int .i64 0, .bool false, .int .i64 0, .int .i64 0, .bool false, .int .i64 0, .int .i64 0, .bool false, .int .i64 0, .int .i64 0] 40)) w.heap.size (.slice (some ⟨b, off, none⟩) n c) pos col (-1) 0 := heap_alloc_new w _
  have hcall := item_any w.heap.size b off n c z _ (hcA _) hn hnc (by omega) pos f d W nx col F X 0 intr one hL0 hfn hf hd hW hO hF hX hnx hc0 hc1 hW10 hF0 hF1 hX0 hX1
  obtain ⟨T, hT⟩ : ∃ T, T = liF z n pos col intr f F W one nx X := ⟨_, rfl⟩
  rw [← hT] at hcall ⊢
  clear hT hL0 hcA hc hf hd hW hO hF hX hnx
  go_enter Try.func23, Try.ntmps23
  go_wp2_with (go_at_call 30; refine hcall.mono ?_; rintro e w1 ⟨t, rfl, rfl, hl1, hg1⟩; have HL : Hid (LineAt w1 w.heap.size (.slice (some ⟨b, off, none⟩) n c) t.pos t.col t.first t.fcol) := hl1; have HG : Hid (World.grownBy _ w1 (some w.heap.size)) := hg1; obtain ⟨l0, l1, l2, l3, l4⟩ := hl1.cells; have hlt := hl1.lt; clear hl1 hg1 hcall)
  go_quiet (fail)
  go_wp2
  try simp only [Exit.inBlock, Exit.then]
  refine bodyPost_ret (results_tmp8 rfl _ _ _) rfl ?_
  have hb : Below w.heap.size w w1 := ((Below.refl _ _).alloc (Nat.le_refl _) _).grown HG.out (by simp) (fun k h => by cases h; exact Nat.le_refl _)
  exact ⟨rfl, drewN_below (hb.alloc (by omega) _) _⟩
end Go.Proofs.Qxb6601983a
