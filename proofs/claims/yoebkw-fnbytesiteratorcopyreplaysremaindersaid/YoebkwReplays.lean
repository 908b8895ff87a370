/-
  THE WALK of FnBytesIteratorCopyReplaysRemainder (3), out of its callees' contracts (YoebkwIt.lean, YoebkwReplay.lean).
-/
import Derived.Test.YoebkwReplay
namespace Go.Proofs.Yoebkw
open Go.RowKit

/-- zzBytes_FnBytesIteratorCopyReplaysRemainder: are there at most 1<<20 bytes? -/
theorem bound5 (a : Option Addr) (n c : Nat) (i : Int) (w : World) (hn : n ≤ 1048576) :
    Calls Ebkg.prog 5 #[.slice a n c, .int .i64 i] w fun e w' => e = .returned (.bool true) ∧ w = w' := by
  go_enter Ebkg.func5, Ebkg.ntmps5
  go_wp2
  go_ret
  exact ⟨rfl, rfl⟩

set_option maxHeartbeats 800000 in
set_option maxRecDepth 100000 in
theorem replays_main (a : Option Addr) (n c : Nat) (f : Nat → Int) (I : Nat) (w : World) (hn : n ≤ 65536) (hI : I ≤ n) (hf : ∀ j, 0 ≤ f j ∧ f j ≤ 255) (h : Given w a n c f) :
    Calls Ebkg.prog 3 #[.slice a n c, .int .i64 I] w fun e w' => e = .returned (.bool true) ∧ Below w.heap.size w w' := by
  go_enter Ebkg.func3, Ebkg.ntmps3
  go_wp2_with fail
  refine (bound5 a n c I w (by omega)).mono ?_
  rintro e w' ⟨rfl, rfl⟩
  go_wp2_with fail
  refine (clone_any a n c f w hn h).mono ?_
  rintro e w1 ⟨a', c', g, rfl, hb1, hby⟩
  clear h
  go_wp2_with fail
  refine (new_any a' n c' I n w1).mono ?_
  rintro e w2 ⟨d1, rfl, hl2, ha2, hb2⟩
  go_wp2_with fail
  refine (zzcopy_any d1 a' n c' I n w2 ha2).mono ?_
  rintro e w3 ⟨d2, rfl, hl3, hc3, hb3⟩
  have hg1 : 0 < n → g < d1 := fun h0 => Nat.lt_of_lt_of_le (World.block_lt_of_cell? _ _ (hby 0 h0).2) hl2
  have h12 : d1 < d2 := Nat.lt_of_lt_of_le ha2.lt hl3
  have hg2 : 0 < n → g < d2 := fun h0 => Nat.lt_trans (hg1 h0) h12
  have ha3 := ha2.below hb3 ha2.lt
  have hB3 := hb2.trans (hb3.mono hb2.size)
  have hby3 := hby.below hB3 (Nat.le_refl _)
  clear ha2 hb2 hb3 hl3 hby
  go_wp2_with fail
  refine (fields_any d2 a' n c' I n w3 hc3).mono ?_
  rintro e w4 ⟨rfl, hn4⟩
  have hby4 := hby3.below (hn4.below _) (Nat.le_refl _)
  clear hby3
  go_wp2_with fail
  refine (same_any a' n c' g w4 f (by omega) hby4).mono ?_
  rintro e w5 ⟨rfl, hn5⟩
  have hn35 := hn4.trans hn5
  have hby5 := hby4.below (hn5.below _) (Nat.le_refl _)
  have hc5 := hc3.near hn35
  have ha5 := ha3.near hn35
  have hB5 := hB3.trans (hn35.below _)
  clear hn4 hn5 hn35 hby4 hc3 ha3 hB3
  go_wp2_with fail
  refine (replay_any d2 a' n c' g f I w5 hn hI hf hg2 hc5 hby5).mono ?_
  rintro e w6 ⟨rfl, hb6⟩
  have hby6 : Bytes w6 a' n g f := fun k hk => ⟨(hby5 k hk).1, by rw [hb6.cell (p := ⟨g, k, none⟩) (hg2 (by omega))]; exact (hby5 k hk).2⟩
  have ha6 := ha5.below hb6 h12
  have hB6 := hB5.trans (hb6.mono (by omega))
  clear hby5 hc5 ha5 hB5 hb6
  go_wp2_with fail
  refine (fields_any d1 a' n c' I n w6 ha6).mono ?_
  rintro e w7 ⟨rfl, hn7⟩
  have hby7 := hby6.below (hn7.below _) (Nat.le_refl _)
  have ha7 := ha6.near hn7
  have hB7 := hB6.trans (hn7.below _)
  clear hby6 ha6 hB6 hn7
  go_wp2_with fail
  refine (replay_any d1 a' n c' g f I w7 hn hI hf hg1 ha7 hby7).mono ?_
  rintro e w8 ⟨rfl, hb8⟩
  have R : Aside (Below w.heap.size w w8) := hb1.trans ((hB7.trans (hb8.mono hl2)).mono hb1.size)
  clear hby7 ha7 hB7 hb8 hb1
  go_wp2_with fail
  go_ret
  exact ⟨rfl, R.out⟩

set_option maxRecDepth 100000 in
/-- Too many bytes: the bound laid by program says no. -/
theorem replays_vast (a : Option Addr) (n c : Nat) (i : Int) (w : World) (hn : 1048576 < n) :
    Calls Ebkg.prog 3 #[.slice a n c, .int .i64 i] w fun e w' => e = .returned (.bool true) ∧ Below w.heap.size w w' := by
  go_enter Ebkg.func3, Ebkg.ntmps3
  go_wp2
  go_ret
  exact ⟨rfl, Below.refl _ _⟩

set_option maxRecDepth 100000 in
/-- One of the law's own guards says no. -/
theorem replays_out (a : Option Addr) (n c : Nat) (i : Int) (w : World) (hn : n ≤ 1048576) (h : 65536 < n ∨ (n ≤ 65536 ∧ i < 0) ∨ (n ≤ 65536 ∧ 0 ≤ i ∧ (n : Int) < i)) :
    Calls Ebkg.prog 3 #[.slice a n c, .int .i64 i] w fun e w' => e = .returned (.bool true) ∧ Below w.heap.size w w' := by
  rcases h with h | h | h
  all_goals
    go_enter Ebkg.func3, Ebkg.ntmps3
    go_wp2_with fail
    refine (bound5 a n c i w hn).mono ?_
    rintro e w' ⟨rfl, rfl⟩
    go_wp2_with fail
    go_ret
    exact ⟨rfl, Below.refl _ _⟩

/-- EVERY INPUT. -/
theorem replays_any (a : Option Addr) (n c : Nat) (f : Nat → Int) (i : Int) (w : World) (hf : ∀ j, 0 ≤ f j ∧ f j ≤ 255) (h : Given w a n c f) :
    Calls Ebkg.prog 3 #[.slice a n c, .int .i64 i] w fun e w' => e = .returned (.bool true) ∧ Below w.heap.size w w' := by
  by_cases h1 : 1048576 < n
  · exact replays_vast a n c i w h1
  by_cases h2 : n ≤ 65536 ∧ 0 ≤ i ∧ i ≤ (n : Int)
  · obtain ⟨hn, hi0, hi1⟩ := h2
    obtain ⟨I, rfl⟩ : ∃ I : Nat, i = I := ⟨i.toNat, by omega⟩
    exact replays_main a n c f I w hn (by omega) hf h
  · exact replays_out a n c i w (by omega) (by omega)
end Go.Proofs.Yoebkw
