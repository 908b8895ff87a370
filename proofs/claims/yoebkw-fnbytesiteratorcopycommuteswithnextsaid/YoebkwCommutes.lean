/-
  THE WALK of FnBytesIteratorCopyCommutesWithNext (4), out of its callees' contracts (YoebkwIt.lean).
-/
import Derived.Test.YoebkwIt
namespace Go.Proofs.Yoebkw
open Go.RowKit

/-- zzBytes_FnBytesIteratorCopyCommutesWithNext: are there at most 1<<20 bytes? -/
theorem bound12 (a : Option Addr) (n c : Nat) (i m : Int) (w : World) (hn : n ≤ 1048576) :
    Calls Ebkg.prog 12 #[.slice a n c, .int .i64 i, .int .i64 m] w fun e w' => e = .returned (.bool true) ∧ w = w' := by
  go_enter Ebkg.func12, Ebkg.ntmps12
  go_wp2
  go_ret
  exact ⟨rfl, rfl⟩

set_option maxHeartbeats 800000 in
set_option maxRecDepth 100000 in
theorem commutes_main (a : Option Addr) (n c : Nat) (f : Nat → Int) (i : Int) (N : Nat) (w : World) (hn : n ≤ 65536) (hi0 : 0 ≤ i) (hi1 : i ≤ (n : Int)) (hN : N ≤ 65536) (h : Given w a n c f) :
    Calls Ebkg.prog 4 #[.slice a n c, .int .i64 i, .int .i64 N] w fun e w' => e = .returned (.bool true) ∧ Below w.heap.size w w' := by
  go_enter Ebkg.func4, Ebkg.ntmps4
  go_wp2_with fail
  refine (bound12 a n c i N w (by omega)).mono ?_
  rintro e w' ⟨rfl, rfl⟩
  go_wp2_with fail
  refine (clone_any a n c f w hn h).mono ?_
  rintro e w1 ⟨a', c', g, rfl, hb1, hby⟩
  clear h
  go_wp2_with fail
  refine (new_any a' n c' i n w1).mono ?_
  rintro e w2 ⟨ba, rfl, hl2, ha2, hb2⟩
  go_wp2_with fail
  refine (new_any a' n c' i n w2).mono ?_
  rintro e w3 ⟨bb, rfl, hl3, hi3, hb3⟩
  go_wp2_with fail
  refine (zzcopy_any bb a' n c' i n w3 hi3).mono ?_
  rintro e w4 ⟨bc, rfl, hl4, hc4, hb4⟩
  have R : Aside (It w4 ba (.slice a' n c') i n ∧ It w4 bb (.slice a' n c') i n ∧ It w4 bc (.slice a' n c') i n ∧ Below w1.heap.size w1 w4) :=
    ⟨(ha2.below hb3 ha2.lt).below hb4 (by have := hb3.size; have := ha2.lt; omega), hi3.below hb4 hi3.lt, hc4, (hb2.trans (hb3.mono hb2.size)).trans (hb4.mono (Nat.le_trans hb2.size hb3.size))⟩
  have hab : ba < bb := by have := ha2.lt; omega
  have hbc : bb < bc := by have := hi3.lt; omega
  clear ha2 hi3 hc4 hb2 hb3 hb4 hl3 hl4
  go_wp2_with fail
  go_loopg [12] N (fun m i' wr => ∃ k : Nat, k ≤ N ∧ m = N - k ∧ i' = .int .i64 k ∧ It wr ba (.slice a' n c') (i + k) n ∧ It wr bb (.slice a' n c') i n ∧ It wr bc (.slice a' n c') (i + k) n ∧ Below w1.heap.size w1 wr)
  case atStart => exact ⟨0, by omega, rfl, rfl, by simpa using R.out.1, R.out.2.1, by simpa using R.out.2.2.1, R.out.2.2.2⟩
  case round =>
    obtain ⟨k, hk, rfl, rfl, ha, hb, hc, hbel⟩ := hrel
    clear R
    by_cases hlt : k < N
    · have hlt' : (k : Int) < (N : Int) := by omega
      go_wp2_with fail
      refine (next_any ba (.slice a' n c') (i + k) n wr (by omega) (by omega) ha).mono ?_
      rintro e w5 ⟨rfl, ha5, ho5⟩
      have hc5 := hc.only ho5 (by omega)
      have hb5 := hb.only ho5 (by omega)
      have hbel5 := hbel.trans (ho5.below (B := w1.heap.size) hl2)
      clear ha hb hc hbel ho5
      go_wp2_with fail
      refine (next_any bc (.slice a' n c') (i + k) n w5 (by omega) (by omega) hc5).mono ?_
      rintro e w6 ⟨rfl, hc6, ho6⟩
      have R6 : Aside (It w6 ba (.slice a' n c') (i + k + 1) n ∧ It w6 bb (.slice a' n c') i n ∧ It w6 bc (.slice a' n c') (i + k + 1) n ∧ Below w1.heap.size w1 w6) :=
        ⟨ha5.only ho6 (by omega), hb5.only ho6 (by omega), hc6, hbel5.trans (ho6.below (by omega))⟩
      clear ha5 hb5 hc5 hc6 ho6 hbel5
      go_wp2_with fail
      go_roundg (N - (k + 1))
      case measure => omega
      case rel =>
        have e1 : i + ((k + 1 : Nat) : Int) = i + k + 1 := by omega
        refine ⟨k + 1, by omega, rfl, by go_num, ?_, R6.out.2.1, ?_, R6.out.2.2.2⟩
        · rw [e1]; exact R6.out.1
        · rw [e1]; exact R6.out.2.2.1
    · obtain rfl : k = N := by omega
      go_wp2_with fail
      refine (zzcopy_any ba a' n c' (i + k) n wr ha).mono ?_
      rintro e w5 ⟨bd, rfl, hl5, hd5, hb5⟩
      have hby5 := (hby.below hbel (Nat.le_refl _)).below hb5 (Nat.le_refl _)
      have hB5 := hbel.trans (hb5.mono hbel.size)
      have hbb5 := hb.below hb5 hb.lt
      have hbc5 := hc.below hb5 hc.lt
      clear ha hb hc hbel hb5 hby
      go_wp2_with fail
      refine (fields_any bd a' n c' (i + k) n w5 hd5).mono ?_
      rintro e w6 ⟨rfl, hn6⟩
      go_wp2_with fail
      refine (fields_any bc a' n c' (i + k) n w6 (hbc5.near hn6)).mono ?_
      rintro e w7 ⟨rfl, hn7⟩
      have hn57 := hn6.trans hn7
      have hby7 := hby5.below (hn57.below _) (Nat.le_refl _)
      have hbb7 := hbb5.near hn57
      have hB7 := hB5.trans (hn57.below _)
      clear hn6 hn7 hn57 hby5 hbb5 hbc5 hd5 hB5
      go_wp2_with fail
      refine (same_any a' n c' g w7 f (by omega) hby7).mono ?_
      rintro e w8 ⟨rfl, hn8⟩
      have hby8 := hby7.below (hn8.below _) (Nat.le_refl _)
      clear hby7
      go_wp2_with fail
      refine (same_any a' n c' g w8 f (by omega) hby8).mono ?_
      rintro e w9 ⟨rfl, hn9⟩
      have hn79 := hn8.trans hn9
      clear hby8 hn8 hn9
      go_wp2_with fail
      refine (fields_any bb a' n c' i n w9 (hbb7.near hn79)).mono ?_
      rintro e w10 ⟨rfl, hn10⟩
      have R : Aside (Below w.heap.size w w10) := hb1.trans ((hB7.trans ((hn79.trans hn10).below _)).mono hb1.size)
      clear hbb7 hn79 hn10 hB7 hb1
      go_wp2_with fail
      go_ret
      exact ⟨rfl, R.out⟩

set_option maxRecDepth 100000 in
/-- Too many bytes: the bound laid by program says no. -/
theorem commutes_vast (a : Option Addr) (n c : Nat) (i m : Int) (w : World) (hn : 1048576 < n) :
    Calls Ebkg.prog 4 #[.slice a n c, .int .i64 i, .int .i64 m] w fun e w' => e = .returned (.bool true) ∧ Below w.heap.size w w' := by
  go_enter Ebkg.func4, Ebkg.ntmps4
  go_wp2
  go_ret
  exact ⟨rfl, Below.refl _ _⟩

set_option maxRecDepth 100000 in
/-- One of the law's own guards says no. -/
theorem commutes_out (a : Option Addr) (n c : Nat) (i m : Int) (w : World) (hn : n ≤ 1048576) (h : 65536 < n ∨ (n ≤ 65536 ∧ i < 0) ∨ (n ≤ 65536 ∧ 0 ≤ i ∧ (n : Int) < i) ∨ (n ≤ 65536 ∧ 0 ≤ i ∧ i ≤ (n : Int) ∧ m < 0) ∨ (n ≤ 65536 ∧ 0 ≤ i ∧ i ≤ (n : Int) ∧ 0 ≤ m ∧ 65536 < m)) :
    Calls Ebkg.prog 4 #[.slice a n c, .int .i64 i, .int .i64 m] w fun e w' => e = .returned (.bool true) ∧ Below w.heap.size w w' := by
  rcases h with h | h | h | h | h
  all_goals
    go_enter Ebkg.func4, Ebkg.ntmps4
    go_wp2_with fail
    refine (bound12 a n c i m w hn).mono ?_
    rintro e w' ⟨rfl, rfl⟩
    go_wp2_with fail
    go_ret
    exact ⟨rfl, Below.refl _ _⟩

/-- EVERY INPUT. -/
theorem commutes_any (a : Option Addr) (n c : Nat) (f : Nat → Int) (i m : Int) (w : World) (h : Given w a n c f) :
    Calls Ebkg.prog 4 #[.slice a n c, .int .i64 i, .int .i64 m] w fun e w' => e = .returned (.bool true) ∧ Below w.heap.size w w' := by
  by_cases h1 : 1048576 < n
  · exact commutes_vast a n c i m w h1
  by_cases h2 : n ≤ 65536 ∧ 0 ≤ i ∧ i ≤ (n : Int) ∧ 0 ≤ m ∧ m ≤ 65536
  · obtain ⟨hn, hi0, hi1, hm0, hm1⟩ := h2
    obtain ⟨N, rfl⟩ : ∃ N : Nat, m = N := ⟨m.toNat, by omega⟩
    exact commutes_main a n c f i N w hn hi0 hi1 (by omega) h
  · exact commutes_out a n c i m w (by omega) (by omega)
end Go.Proofs.Yoebkw
