/-
  THE WALK OF zzModelListItem (seat b6601983a).
-/
import Derived.Test.Qxb6601983aMarkers
import Derived.Deep.RegionWith
namespace Go.Proofs.Qxb6601983a
open Go.RowKit Plain

theorem results_tmp8 {fn : Func} {t0 t1 t2 t3 t4 t5 t6 t7 : Tmp} (h : fn.results = #[.tmp t0, .tmp t1, .tmp t2, .tmp t3, .tmp t4, .tmp t5, .tmp t6, .tmp t7]) (tmps : Array Value) (P : Program) (w : World) :
    (results fn tmps).run P w = .ok (.tuple #[tmps.getD t0 undef, tmps.getD t1 undef, tmps.getD t2 undef, tmps.getD t3 undef, tmps.getD t4 undef, tmps.getD t5 undef, tmps.getD t6 undef, tmps.getD t7 undef]) w := by
  simp [results, h]

/-- A call's ending: the eight values of an answer. -/
def LiEnd (t : Li) (e : Ending) : Prop := e = .returned (.tuple #[.bool t.item, .int .i64 t.off, .bool t.filled, .bool t.ok, .int .i64 t.pos, .int .i64 t.col, .int .i64 t.first, .int .i64 t.fcol])

theorem liend {t : Li} (a : Bool) (b : Int) (c d : Bool) (e f g h : Int) (ht : t = ⟨a, b, c, d, e, f, g, h⟩) :
    LiEnd t (.returned (.tuple #[.bool a, .int .i64 b, .bool c, .bool d, .int .i64 e, .int .i64 f, .int .i64 g, .int .i64 h])) := by
  subst ht; rfl

/-- zzSkipBlanks, its arguments and its answer under names of their own. -/
theorem skip_at (b off n c : Nat) (z : Nat → Int) (w : World) (hc : ∀ j, j < n → w.cell? ⟨b, off + j, none⟩ = some (.int .u8 (z j))) (hn : n ≤ 1048576)
    (pos f : Nat) (p col X : Int) (hp : p = (pos : Int)) (hf : SkipEnd z n pos f) (hc0 : 0 ≤ col) (hc1 : col ≤ 300000000) (hX : colAt z pos col f = X) :
    Calls Try.prog 31 #[.slice (some ⟨b, off, none⟩) n c, .int .i64 p, .int .i64 col] w fun e w' => e = .returned (.tuple #[.int .i64 f, .int .i64 X]) ∧ w' = w := by
  subst hp hX
  exact skip_any b off n c z w hc hn pos f col hf hc0 hc1

theorem zmark_at (b off n c : Nat) (z : Nat → Int) (w : World) (hc : ∀ j, j < n → w.cell? ⟨b, off + j, none⟩ = some (.int .u8 (z j))) (hn : n ≤ 1048576)
    (f d W : Nat) (one : Bool) (hf : f < n) (hd : DigEnd z n f d) (hW : markW z n f d = W) (hO : markO z n f d = one) :
    Calls Try.prog 32 #[.slice (some ⟨b, off, none⟩) n c, .int .i64 f] w fun e w' => e = .returned (.tuple #[.int .i64 W, .bool one]) ∧ w' = w := by
  subst hW hO
  exact zmarker_any b off n c z w f d hf hc hn hd

set_option maxHeartbeats 3200000 in
theorem model_li (b off n c : Nat) (z : Nat → Int) (w : World) (hc : ∀ j, j < n → w.cell? ⟨b, off + j, none⟩ = some (.int .u8 (z j))) (hn : n ≤ 1048576)
    (pos f d W nx : Nat) (col F X : Int) (intr one : Bool) (hfn : f < n) (hf : Hid (SkipEnd z n pos f)) (hd : Hid (DigEnd z n f d)) (hW : Hid (markW z n f d = W)) (hO : Hid (markO z n f d = one))
    (hnx : Hid (SkipEnd z n (f + W) nx)) (hF : Hid (colAt z pos col f = F)) (hX : Hid (colAt z (f + W) (F + W) nx = X))
    (hc0 : 0 ≤ col) (hc1 : col ≤ 268435456) (hF0 : 0 ≤ F) (hF1 : F ≤ 280000000) (hW10 : W ≤ 10) (hfW : f + W ≤ n) (hnx0 : f + W ≤ nx) (hnx1 : nx ≤ n) (hX0 : F + W ≤ X) (hX1 : X ≤ 290000000) :
    Calls Try.prog 24 #[.slice (some ⟨b, off, none⟩) n c, .int .i64 pos, .int .i64 col, .bool intr] w fun e w' => LiEnd (liF z n pos col intr f F W one nx X) e ∧ w' = w := by
  by_cases hW0 : W = 0
  · subst hW0
    go_enter Try.func24, Try.ntmps24
    go_wp2_with (first
      | (go_at_call_of 31 col; refine (skip_at b off n c z _ hc hn pos f _ _ F rfl hf.out (by omega) (by omega) hF.out).mono ?_; rintro e w' ⟨rfl, rfl⟩)
      | (go_at_call 32; refine (zmark_at b off n c z _ hc hn f d 0 one hfn hd.out hW.out hO.out).mono ?_; rintro e w' ⟨rfl, rfl⟩))
    try simp only [Exit.inBlock, Exit.then]
    refine bodyPost_ret (results_tmp8 rfl _ _ _) rfl ?_
    exact ⟨liend _ _ _ _ _ _ _ _ (li_none rfl), rfl⟩
  · have hWb : ((W : Int) == 0) = false := by simp; omega
    by_cases hnn : nx = n
    · have hnb : ((nx : Int) == (n : Int)) = true := by simp; omega
      have HN : Hid (nx = n) := hnn
      clear hnn
      cases intr with
      | true =>
        go_enter Try.func24, Try.ntmps24
        go_wp2_with (first
          | (go_at_call 32; refine (zmark_at b off n c z _ hc hn f d W one hfn hd.out hW.out hO.out).mono ?_; rintro e w' ⟨rfl, rfl⟩)
          | (go_at_call_of 31 F; refine (skip_at b off n c z _ hc hn (f + W) nx _ _ X (by simp) hnx.out (by omega) (by omega) hX.out).mono ?_; rintro e w' ⟨rfl, rfl⟩)
          | (go_at_call_of 31 col; refine (skip_at b off n c z _ hc hn pos f _ _ F rfl hf.out (by omega) (by omega) hF.out).mono ?_; rintro e w' ⟨rfl, rfl⟩))
        try simp only [Exit.inBlock, Exit.then]
        refine bodyPost_ret (results_tmp8 rfl _ _ _) rfl ?_
        exact ⟨liend _ _ _ _ _ _ _ _ (li_intr hW0 (by have := HN.out; omega) ⟨rfl, .inl HN.out⟩), rfl⟩
      | false =>
        go_enter Try.func24, Try.ntmps24
        go_wp2_with (first
          | (go_at_call 32; refine (zmark_at b off n c z _ hc hn f d W one hfn hd.out hW.out hO.out).mono ?_; rintro e w' ⟨rfl, rfl⟩)
          | (go_at_call_of 31 F; refine (skip_at b off n c z _ hc hn (f + W) nx _ _ X (by simp) hnx.out (by omega) (by omega) hX.out).mono ?_; rintro e w' ⟨rfl, rfl⟩)
          | (go_at_call_of 31 col; refine (skip_at b off n c z _ hc hn pos f _ _ F rfl hf.out (by omega) (by omega) hF.out).mono ?_; rintro e w' ⟨rfl, rfl⟩))
        try simp only [Exit.inBlock, Exit.then]
        refine bodyPost_ret (results_tmp8 rfl _ _ _) rfl ?_
        exact ⟨liend _ _ _ _ _ _ _ _ (li_blank hW0 (by simp) HN.out), rfl⟩
    · have hlt : nx < n := by omega
      have hnb : ((nx : Int) == (n : Int)) = false := by simp; omega
      by_cases ht : X = F + W
      · have hXb : (X == F + (W : Int)) = true := by simpa using ht
        have HT : Hid (X = F + W) := ht
        clear ht
        go_enter Try.func24, Try.ntmps24
        go_wp2_with (first
          | (go_at_call 32; refine (zmark_at b off n c z _ hc hn f d W one hfn hd.out hW.out hO.out).mono ?_; rintro e w' ⟨rfl, rfl⟩)
          | (go_at_call_of 31 F; refine (skip_at b off n c z _ hc hn (f + W) nx _ _ X (by simp) hnx.out (by omega) (by omega) hX.out).mono ?_; rintro e w' ⟨rfl, rfl⟩)
          | (go_at_call_of 31 col; refine (skip_at b off n c z _ hc hn pos f _ _ F rfl hf.out (by omega) (by omega) hF.out).mono ?_; rintro e w' ⟨rfl, rfl⟩))
        try simp only [Exit.inBlock, Exit.then]
        refine bodyPost_ret (results_tmp8 rfl _ _ _) rfl ?_
        exact ⟨liend _ _ _ _ _ _ _ _ (li_tight hW0 ⟨hlt, HT.out⟩), rfl⟩
      · have hXb : (X == F + (W : Int)) = false := by simpa using ht
        by_cases hio : intr = true ∧ one = false
        · obtain ⟨rfl, rfl⟩ := hio
          go_enter Try.func24, Try.ntmps24
          go_wp2_with (first
            | (go_at_call 32; refine (zmark_at b off n c z _ hc hn f d W false hfn hd.out hW.out hO.out).mono ?_; rintro e w' ⟨rfl, rfl⟩)
            | (go_at_call_of 31 F; refine (skip_at b off n c z _ hc hn (f + W) nx _ _ X (by simp) hnx.out (by omega) (by omega) hX.out).mono ?_; rintro e w' ⟨rfl, rfl⟩)
            | (go_at_call_of 31 col; refine (skip_at b off n c z _ hc hn pos f _ _ F rfl hf.out (by omega) (by omega) hF.out).mono ?_; rintro e w' ⟨rfl, rfl⟩))
          try simp only [Exit.inBlock, Exit.then]
          refine bodyPost_ret (results_tmp8 rfl _ _ _) rfl ?_
          exact ⟨liend _ _ _ _ _ _ _ _ (li_intr hW0 (by omega) ⟨rfl, .inr rfl⟩), rfl⟩
        · by_cases h4 : X - (F + W) ≤ 4
          · cases intr <;> cases one
            all_goals first | (exact absurd ⟨rfl, rfl⟩ hio) | skip
            all_goals
              clear hio
              go_enter Try.func24, Try.ntmps24
              go_wp2_with (first
                | (go_at_call 32; refine (zmark_at b off n c z _ hc hn f d W _ hfn hd.out hW.out hO.out).mono ?_; rintro e w' ⟨rfl, rfl⟩)
                | (go_at_call_of 31 F; refine (skip_at b off n c z _ hc hn (f + W) nx _ _ X (by simp) hnx.out (by omega) (by omega) hX.out).mono ?_; rintro e w' ⟨rfl, rfl⟩)
                | (go_at_call_of 31 col; refine (skip_at b off n c z _ hc hn pos f _ _ F rfl hf.out (by omega) (by omega) hF.out).mono ?_; rintro e w' ⟨rfl, rfl⟩))
              try simp only [Exit.inBlock, Exit.then]
              refine bodyPost_ret (results_tmp8 rfl _ _ _) rfl ?_
              exact ⟨liend _ _ _ _ _ _ _ _ (li_short hW0 (by omega) (by first | (simp; done) | (simp; omega)) hnn (by omega)), rfl⟩
          · have hcz := hc (f + W) (by omega)
            have hfWn : f + W < n := by omega
            by_cases h32 : z (f + W) = 32
            · cases intr <;> cases one
              all_goals first | (exact absurd ⟨rfl, rfl⟩ hio) | skip
              all_goals
                clear hio
                go_enter Try.func24, Try.ntmps24
                go_wp2_with (first
                  | (go_at_call 32; refine (zmark_at b off n c z _ hc hn f d W _ hfn hd.out hW.out hO.out).mono ?_; rintro e w' ⟨rfl, rfl⟩)
                  | (go_at_call_of 31 F; refine (skip_at b off n c z _ hc hn (f + W) nx _ _ X (by simp) hnx.out (by omega) (by omega) hX.out).mono ?_; rintro e w' ⟨rfl, rfl⟩)
                  | (go_at_call_of 31 col; refine (skip_at b off n c z _ hc hn pos f _ _ F rfl hf.out (by omega) (by omega) hF.out).mono ?_; rintro e w' ⟨rfl, rfl⟩))
                try simp only [Exit.inBlock, Exit.then]
                refine bodyPost_ret (results_tmp8 rfl _ _ _) rfl ?_
                exact ⟨liend _ _ _ _ _ _ _ _ ((li_long hW0 (by first | (simp; done) | (simp; omega)) hnn (by omega)).trans (by rw [if_pos (.inl h32)])), rfl⟩
            · have h32b : (z (f + W) == 32) = false := by simpa using h32
              by_cases hm : (F + W) % 4 = 3
              · have hmb : ((F + (W : Int)) % 4 == 3) = true := by simpa using hm
                have HMM : Hid ((F + (W : Int)) % 4 = 3) := hm
                clear hm
                cases intr <;> cases one
                all_goals first | (exact absurd ⟨rfl, rfl⟩ hio) | skip
                all_goals
                  clear hio
                  go_enter Try.func24, Try.ntmps24
                  go_wp2_with (first
                    | (go_at_call 32; refine (zmark_at b off n c z _ hc hn f d W _ hfn hd.out hW.out hO.out).mono ?_; rintro e w' ⟨rfl, rfl⟩)
                    | (go_at_call_of 31 F; refine (skip_at b off n c z _ hc hn (f + W) nx _ _ X (by simp) hnx.out (by omega) (by omega) hX.out).mono ?_; rintro e w' ⟨rfl, rfl⟩)
                    | (go_at_call_of 31 col; refine (skip_at b off n c z _ hc hn pos f _ _ F rfl hf.out (by omega) (by omega) hF.out).mono ?_; rintro e w' ⟨rfl, rfl⟩))
                  try simp only [Exit.inBlock, Exit.then]
                  refine bodyPost_ret (results_tmp8 rfl _ _ _) rfl ?_
                  exact ⟨liend _ _ _ _ _ _ _ _ ((li_long hW0 (by first | (simp; done) | (simp; omega)) hnn (by omega)).trans (by rw [if_pos (.inr HMM.out)])), rfl⟩
              · have hmb : ((F + (W : Int)) % 4 == 3) = false := by simpa using hm
                cases intr <;> cases one
                all_goals first | (exact absurd ⟨rfl, rfl⟩ hio) | skip
                all_goals
                  clear hio
                  go_enter Try.func24, Try.ntmps24
                  go_wp2_with (first
                    | (go_at_call 32; refine (zmark_at b off n c z _ hc hn f d W _ hfn hd.out hW.out hO.out).mono ?_; rintro e w' ⟨rfl, rfl⟩)
                    | (go_at_call_of 31 F; refine (skip_at b off n c z _ hc hn (f + W) nx _ _ X (by simp) hnx.out (by omega) (by omega) hX.out).mono ?_; rintro e w' ⟨rfl, rfl⟩)
                    | (go_at_call_of 31 col; refine (skip_at b off n c z _ hc hn pos f _ _ F rfl hf.out (by omega) (by omega) hF.out).mono ?_; rintro e w' ⟨rfl, rfl⟩))
                  try simp only [Exit.inBlock, Exit.then]
                  refine bodyPost_ret (results_tmp8 rfl _ _ _) rfl ?_
                  exact ⟨liend _ _ _ _ _ _ _ _ ((li_long hW0 (by first | (simp; done) | (simp; omega)) hnn (by omega)).trans (by rw [if_neg (by omega)])), rfl⟩
end Go.Proofs.Qxb6601983a
