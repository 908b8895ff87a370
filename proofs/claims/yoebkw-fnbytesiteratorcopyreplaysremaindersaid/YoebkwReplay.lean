/-
  zzReplay_b3 (11) and what it calls besides: (*BytesIterator).Key (15), Value (16), (*Int).Equals (39).
-/
import Derived.Test.YoebkwIt
import Derived.Deep.CutRange
namespace Go.Proofs.Yoebkw
open Go.RowKit

theorem assert43 (v : Option Addr) (w : World) : (Instr.typeAssert (.iface 43 (.pointer v)) 40 43 true).run Ebkg.prog w = .ok (.tuple #[.pointer v, .bool true]) w := by kernel_rfl

/-- (*Int).Equals of two Ints in memory. -/
theorem equals_any (d d' : Nat) (x : Int) (w : World) (h1 : w.cell? ⟨d, 0, none⟩ = some (.int .i64 x)) (h2 : w.cell? ⟨d', 0, none⟩ = some (.int .i64 x)) :
    Calls Ebkg.prog 39 #[.pointer (some ⟨d, 0, none⟩), .iface 43 (.pointer (some ⟨d', 0, none⟩))] w fun e w' => e = .returned (.bool true) ∧ Near w' w := by
  have ha := assert43
  go_enter Ebkg.func39, Ebkg.ntmps39
  go_wp2
  go_quiet (fail)
  go_wp2
  go_ret
  exact ⟨by simp, rfl, rfl, rfl, rfl⟩

/-- Next within the length; at its end. -/
theorem next_in (b : Nat) (v : Value) (i l : Int) (w : World) (hi0 : 0 ≤ i) (hi1 : i ≤ 1000000) (hl : i + 1 ≤ l) (h : It w b v i l) :
    Calls Ebkg.prog 13 #[.pointer (some ⟨b, 0, none⟩)] w fun e w' => e = .returned (.bool true) ∧ It w' b v (i + 1) l ∧ Only b w w' :=
  (next_any b v i l w hi0 hi1 h).mono fun _ _ ⟨he, hw⟩ => ⟨by rw [he, decide_eq_true hl], hw⟩
theorem next_end (b : Nat) (v : Value) (i l : Int) (w : World) (hi0 : 0 ≤ i) (hi1 : i ≤ 1000000) (hl : ¬ i + 1 ≤ l) (h : It w b v i l) :
    Calls Ebkg.prog 13 #[.pointer (some ⟨b, 0, none⟩)] w fun e w' => e = .returned (.bool false) ∧ It w' b v (i + 1) l ∧ Only b w w' :=
  (next_any b v i l w hi0 hi1 h).mono fun _ _ ⟨he, hw⟩ => ⟨by rw [he, decide_eq_false hl], hw⟩

/-- An Int in new memory. -/
def NewInt (w w' : World) (d : Nat) (x : Int) : Prop := w.heap.size ≤ d ∧ d < w'.heap.size ∧ w'.cell? ⟨d, 0, none⟩ = some (.int .i64 x) ∧ Below w.heap.size w w'

theorem newInt_alloc (w : World) (x : Int) : NewInt w (w.alloc (.cells #[.int .i64 x] 45)) w.heap.size x :=
  ⟨Nat.le_refl _, by simp, by simp, (Below.refl _ _).alloc (Nat.le_refl _) _⟩
theorem NewInt.near {w w' w'' : World} {d : Nat} {x : Int} (h : NewInt w w' d x) (k : Near w'' w') : NewInt w w'' d x :=
  ⟨h.1, by rw [k.size]; exact h.2.1, by rw [k.cell]; exact h.2.2.1, h.2.2.2.trans (k.below _)⟩

/-- (*BytesIterator).Key at place k + 1: the Int k. -/
theorem key_any (b : Nat) (v : Value) (k : Nat) (l : Int) (w : World) (hk : k ≤ 1000000) (h : It w b v ((k : Int) + 1) l) :
    Calls Ebkg.prog 15 #[.pointer (some ⟨b, 0, none⟩)] w fun e w' => ∃ d, e = .returned (.iface 43 (.pointer (some ⟨d, 0, none⟩))) ∧ NewInt w w' d k := by
  have h1 := h.c1
  have h2 : (k : Int) + 1 - 1 = k := by omega
  have H : Aside (NewInt w (w.alloc (.cells #[.int .i64 k] 45)) w.heap.size k) := newInt_alloc w k
  clear h
  go_enter Ebkg.func15, Ebkg.ntmps15
  go_wp2
  go_ret
  exact ⟨_, rfl, H.out⟩

theorem value_raw (b g : Nat) (n c : Nat) (z : Int) (w : World) (k : Nat) (hk : k < n) (hi1 : n ≤ 1000000) (hz0 : 0 ≤ z) (hz1 : z ≤ 255)
    (h0 : w.cell? ⟨b, 0, none⟩ = some (.slice (some ⟨g, 0, none⟩) n c)) (h1 : w.cell? ⟨b, 1, none⟩ = some (.int .i64 ((k : Int) + 1))) (h2 : w.cell? ⟨g, k, none⟩ = some (.int .u8 z)) :
    Calls Ebkg.prog 16 #[.pointer (some ⟨b, 0, none⟩)] w fun e w' => e = .returned (.iface 43 (.pointer (some ⟨w.heap.size, 0, none⟩))) ∧ Near w' (w.alloc (.cells #[.int .i64 z] 45)) := by
  have hk1 : (k : Int) < (n : Int) := by omega
  go_enter Ebkg.func16, Ebkg.ntmps16
  go_wp2
  go_region
  all_goals go_wp2
  all_goals go_ret
  all_goals exact ⟨rfl, rfl, rfl, rfl, rfl⟩

/-- (*BytesIterator).Value at place k + 1: the Int that is byte k. -/
theorem value_at (b g n c : Nat) (z l : Int) (w : World) (k : Nat) (hk : k < n) (hn : n ≤ 1000000) (hz0 : 0 ≤ z) (hz1 : z ≤ 255) (h : It w b (.slice (some ⟨g, 0, none⟩) n c) ((k : Int) + 1) l) (hc : w.cell? ⟨g, k, none⟩ = some (.int .u8 z)) :
    Calls Ebkg.prog 16 #[.pointer (some ⟨b, 0, none⟩)] w fun e w' => ∃ d, e = .returned (.iface 43 (.pointer (some ⟨d, 0, none⟩))) ∧ NewInt w w' d z ∧ w'.cell? ⟨g, k, none⟩ = some (.int .u8 z) :=
  (value_raw b g n c z w k hk hn hz0 hz1 h.c0 h.c1 hc).mono fun _ _ ⟨he, hw⟩ => ⟨_, he, (newInt_alloc _ _).near hw, by
    rw [hw.cell, World.cell?_alloc_old _ _ _ (Nat.ne_of_lt (World.block_lt_of_cell? _ _ hc))]; exact hc⟩

/-! ### 'it.Value().Equals(&Int{..})': one statement whose order Go leaves open: the Int that is laid for the argument, ahead of the call of Value or behind it -/

theorem It.alloc {w : World} {b : Nat} {v : Value} {i l : Int} (h : It w b v i l) (o : Obj) : It (w.alloc o) b v i l := h.of_block (Below.heap_alloc _ _ _ h.lt)
theorem cell_alloc {w : World} {a : Addr} {u : Value} (h : w.cell? a = some u) (o : Obj) : (w.alloc o).cell? a = some u := by
  rw [World.cell?_alloc_old _ _ _ (Nat.ne_of_lt (World.block_lt_of_cell? _ _ h))]; exact h
theorem cell_new (w : World) (z : Int) : (w.alloc (.cells #[.int .i64 z] 45)).cell? ⟨w.heap.size, 0, none⟩ = some (.int .i64 z) := by simp
theorem NewInt.keeps {w w' : World} {d : Nat} {x : Int} (h : NewInt w w' d x) {a : Addr} {u : Value} (hc : w.cell? a = some u) : w'.cell? a = some u := by
  rw [h.2.2.2.cell (World.block_lt_of_cell? _ _ hc)]; exact hc
theorem NewInt.from_drew {w w' : World} {d : Nat} {x : Int} (h : NewInt w.drew w' d x) : Below w.heap.size w w' := (Below.refl _ w).drew.trans h.2.2.2
theorem NewInt.from_alloc {w w' : World} {d : Nat} {x : Int} {o : Obj} (h : NewInt (w.alloc o).drew w' d x) : Below w.heap.size w w' :=
  ((Below.refl _ w).alloc (Nat.le_refl _) o).drew.trans (h.2.2.2.mono (by show w.heap.size ≤ (w.alloc o).heap.size; simp))

theorem wrap_byte (z : Int) (h0 : 0 ≤ z) (h1 : z ≤ 255) : IntKind.i64.wrap z = z := by rw [IntKind.wrap_i64]; omega
theorem method_equals (a : Addr) (w : World) : (method 176 43 (.pointer (some a)) "Equals").run Ebkg.prog w = .ok (39, .pointer (some a)) w := by kernel_rfl
theorem ahead_equals (a : Addr) (w : World) : (nilAhead 176 43 (.pointer (some a)) "Equals").run Ebkg.prog w = .ok (some false) w := by kernel_rfl

set_option maxHeartbeats 800000 in
set_option maxRecDepth 100000 in
theorem replay_any (b : Nat) (a : Option Addr) (n c g : Nat) (f : Nat → Int) (I : Nat) (w : World) (hn : n ≤ 65536) (hI : I ≤ n) (hf : ∀ j, 0 ≤ f j ∧ f j ≤ 255) (hg : 0 < n → g < b)
    (h : It w b (.slice a n c) I n) (hby : Bytes w a n g f) :
    Calls Ebkg.prog 11 #[.pointer (some ⟨b, 0, none⟩), .slice a n c, .int .i64 I] w fun e w' => e = .returned (.bool true) ∧ Below b w w' := by
  have hm := method_equals
  have hna := ahead_equals
  go_enter Ebkg.func11, Ebkg.ntmps11
  go_wp2_with fail
  go_loopg [7] (n - I) (fun m s wr => ∃ k : Nat, k ≤ n ∧ m = n - k ∧ s = .int .i64 k ∧ It wr b (.slice a n c) k n ∧ Below b w wr)
  case atStart => exact ⟨I, hI, rfl, rfl, h, Below.refl _ _⟩
  case round =>
    obtain ⟨k, hk, rfl, rfl, hit, hbel⟩ := hrel
    clear h
    by_cases hlt : k < n
    · have hlt' : (k : Int) < (n : Int) := by omega
      go_wp2_with fail
      refine (next_in b (.slice a n c) k n wr (by omega) (by omega) (by omega) hit).mono ?_
      rintro e w1 ⟨rfl, hit1, ho1⟩
      go_wp2_with fail
      refine (key_any b (.slice a n c) k n w1 (by omega) hit1).mono ?_
      rintro e w2 ⟨d, rfl, hd⟩
      go_wp2_with fail
      refine (equals_any d w2.heap.size k _ ?he1 ?he2).mono ?_
      case he1 => rw [World.cell?_alloc_old _ _ _ (by show d ≠ w2.heap.size; exact Nat.ne_of_lt hd.2.1)]; exact hd.2.2.1
      case he2 => simp
      rintro e w3 ⟨rfl, hn3⟩
      have hb3 : Below w1.heap.size w1 w3 := (hd.2.2.2.alloc hd.2.2.2.size _).trans (hn3.below _)
      have R3 : Aside (Below b w w3) := hbel.trans ((ho1.below (Nat.le_refl _)).trans (hb3.mono (Nat.le_of_lt hit1.lt)))
      have hit3 : It w3 b (.slice a n c) (k + 1) n := hit1.below hb3 hit1.lt
      obtain ⟨rfl, hck⟩ := hby k hlt
      obtain ⟨z, hz⟩ : ∃ z, z = f k := ⟨_, rfl⟩
      have hz0 : 0 ≤ z := by rw [hz]; exact (hf k).1
      have hz1 : z ≤ 255 := by rw [hz]; exact (hf k).2
      have hck3 : w3.cell? ⟨g, k, none⟩ = some (.int .u8 z) := by rw [R3.out.cell (p := ⟨g, k, none⟩) (hg (by omega)), hz]; exact hck
      have hn' : n ≤ 1000000 := by omega
      have hwz := wrap_byte z hz0 hz1
      clear hit1 ho1 hbel hit hd hn3 hb3 hby hz hck hf hg
      go_wp2_with fail
      go_cut [40] from 9 to 40 (fun s wx => s = .bool false ∧ It wx b (.slice (some ⟨g, 0, none⟩) n c) ((k : Int) + 1) n ∧ Below b w wx)
      case rest =>
        obtain ⟨rfl, hitc, hbc⟩ := hcut
        have Rc : Aside (It wc b (.slice (some ⟨g, 0, none⟩) n c) ((k : Int) + 1) n ∧ Below b w wc) := ⟨hitc, hbc⟩
        clear hitc hbc hit3 hck3 R3
        go_wp2_with fail
        go_roundg (n - (k + 1))
        case measure => omega
        case rel =>
          have e1 : ((k + 1 : Nat) : Int) = k + 1 := by omega
          exact ⟨k + 1, by omega, rfl, by go_num, by rw [e1]; exact Rc.out.1, Rc.out.2⟩
      case first =>
        go_region_with (first
          | (go_at_call 16; refine (value_at b g n c z n _ k hlt hn' hz0 hz1 ?_ ?_).mono ?_; (first | exact hit3 | exact hit3.alloc _); (first | exact hck3 | exact cell_alloc hck3 _); rintro e w4 ⟨d4, rfl, hd4, hck4⟩)
          | (go_at_call 39; refine (equals_any _ _ z _ ?_ ?_).mono ?_; (first | exact hd4.2.2.1 | exact cell_alloc hd4.2.2.1 _); (first | exact cell_new _ _ | exact hd4.keeps (cell_new _ _)); rintro e w5 ⟨rfl, hn5⟩))
        all_goals
          go_wp2_with fail
          have hB5 : Below w3.heap.size w3 w5 := by
            first
              | exact (hd4.from_drew.alloc hd4.from_drew.size _).trans (hn5.below _)
              | exact hd4.from_alloc.trans (hn5.below _)
          go_meet
          case rel => exact ⟨rfl, hit3.below hB5 hit3.lt, R3.out.trans (hB5.mono (Nat.le_of_lt hit3.lt))⟩
    · obtain rfl : k = n := by omega
      go_wp2_with fail
      refine (next_end b (.slice a k c) k k wr (by omega) (by omega) (by omega) hit).mono ?_
      rintro e w1 ⟨rfl, hit1, ho1⟩
      have R : Aside (Below b w w1) := hbel.trans (ho1.below (Nat.le_refl _))
      clear hit1 ho1 hbel hit hby
      go_wp2_with fail
      go_ret
      exact ⟨rfl, R.out⟩
end Go.Proofs.Yoebkw
