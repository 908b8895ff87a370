/-
  THE CONTRACTS OF THE CALLEES that both laws of this seat go through: ZZnewBytesIterator (7), (*BytesIterator).Copy (14), ZZcopyBytesIterator (8), ZZbytesIteratorFields (9), (*BytesIterator).Next (13), zzSameBytes_b3 (10), zzCloneBytes_b3 (6).
  An iterator lies in memory as ONE BLOCK OF THREE CELLS (the slice, the place, the length; the embedded empty struct takes none): 'It'. What a call does to memory is told by 'Near' (draws alone), 'Only b' (block b alone turned), 'Below' (the kit's).
-/
import Derived.Test.YoebkwRows
import Derived.WalkKit
import Derived.WalkSpells
import Derived.WalkLawsBesides
import Derived.Outline
import Derived.Deep.OwnRows
import Derived.Deep.QuietTactic
import Derived.BigQuiet
import Derived.Deep.LoopGhost
import Derived.Deep.RegionWith
import Derived.Lib.SliceRun
import Derived.Below
namespace Go.Proofs.Yoebkw
open Go.RowKit

/-! ### What a call does to memory -/

/-- The two worlds part in the count of draws alone. -/
structure Near (w' w : World) : Prop where
  heap : w'.heap = w.heap
  os : w'.os = w.os
  tape : w'.tape = w.tape
  output : w'.output = w.output

/-- Block b alone has turned. -/
structure Only (b : Nat) (w w' : World) : Prop where
  os : w'.os = w.os
  tape : w'.tape = w.tape
  output : w'.output = w.output
  size : w'.heap.size = w.heap.size
  block : ∀ k, k ≠ b → w'.heap[k]? = w.heap[k]?

theorem Near.refl (w : World) : Near w w := ⟨rfl, rfl, rfl, rfl⟩
theorem Near.trans {a b c : World} (h : Near b a) (k : Near c b) : Near c a := ⟨k.heap.trans h.heap, k.os.trans h.os, k.tape.trans h.tape, k.output.trans h.output⟩
theorem Near.cell {w' w : World} (h : Near w' w) (a : Addr) : w'.cell? a = w.cell? a := World.cell?_of_block (w := w) (by rw [h.heap])
theorem Near.size {w' w : World} (h : Near w' w) : w'.heap.size = w.heap.size := by rw [h.heap]
theorem Near.below {w' w : World} (h : Near w' w) (B : Nat) : Below B w w' := ⟨h.os, h.tape, h.output, by rw [h.heap]; exact Nat.le_refl _, fun k _ => by rw [h.heap]⟩
theorem Only.below {b B : Nat} {w w' : World} (h : Only b w w') (hB : B ≤ b) : Below B w w' := ⟨h.os, h.tape, h.output, by rw [h.size]; exact Nat.le_refl _, fun k hk => h.block k (by omega)⟩

/-! ### An iterator in memory -/

/-- BLOCK b IS A BytesIterator over the slice v, at place i, of length l. -/
def It (w : World) (b : Nat) (v : Value) (i l : Int) : Prop := w.heap[b]? = some (.cells #[v, .int .i64 i, .int .i64 l] 38 (0, 0))

theorem It.c0 {w : World} {b : Nat} {v : Value} {i l : Int} (h : It w b v i l) : w.cell? ⟨b, 0, none⟩ = some v := by
  unfold It at h; simp [World.cell?, h]
theorem It.c1 {w : World} {b : Nat} {v : Value} {i l : Int} (h : It w b v i l) : w.cell? ⟨b, 1, none⟩ = some (.int .i64 i) := by
  unfold It at h; simp [World.cell?, h]
theorem It.c2 {w : World} {b : Nat} {v : Value} {i l : Int} (h : It w b v i l) : w.cell? ⟨b, 2, none⟩ = some (.int .i64 l) := by
  unfold It at h; simp [World.cell?, h]
theorem It.free {w : World} {b : Nat} {v : Value} {i l : Int} (h : It w b v i l) (j : Nat) : w.frozen? ⟨b, j, none⟩ = false := by
  unfold It at h; simp [World.frozen?, h]
theorem It.lt {w : World} {b : Nat} {v : Value} {i l : Int} (h : It w b v i l) : b < w.heap.size := by
  unfold It at h
  obtain ⟨hlt, _⟩ := Array.getElem?_eq_some_iff.1 h
  exact hlt
theorem It.of_block {w w' : World} {b : Nat} {v : Value} {i l : Int} (h : It w b v i l) (e : w'.heap[b]? = w.heap[b]?) : It w' b v i l := e.trans h
theorem It.near {w w' : World} {b : Nat} {v : Value} {i l : Int} (h : It w b v i l) (e : Near w' w) : It w' b v i l := h.of_block (by rw [e.heap])
theorem It.only {w w' : World} {b d : Nat} {v : Value} {i l : Int} (h : It w b v i l) (e : Only d w w') (hne : b ≠ d) : It w' b v i l := h.of_block (e.block b hne)
theorem It.below {w w' : World} {B b : Nat} {v : Value} {i l : Int} (h : It w b v i l) (e : Below B w w') (hlt : b < B) : It w' b v i l := h.of_block (e.block b hlt)
theorem It.set {w : World} {b : Nat} {v : Value} {i l : Int} (h : It w b v i l) (j : Int) : It (w.setCell ⟨b, 1, none⟩ (.int .i64 j)) b v j l := by
  unfold It at h ⊢
  simp [World.setCell, Array.getElem?_modify, h]
theorem It.made (w : World) (v : Value) (i l : Int) : It (w.alloc (.cells #[v, .int .i64 i, .int .i64 l] 38)) w.heap.size v i l := Deep.blk_alloc_new _ _

theorem only_setCell (w : World) (b j : Nat) (v : Value) : Only b w (w.setCell ⟨b, j, none⟩ v) := ⟨rfl, rfl, rfl, by simp [World.setCell], fun k hk => Below.heap_setCell _ _ _ _ hk⟩
theorem Only.near {b : Nat} {w w' w'' : World} (h : Only b w w') (k : Near w'' w') : Only b w w'' := ⟨k.os.trans h.os, k.tape.trans h.tape, k.output.trans h.output, k.size.trans h.size, fun i hi => by rw [k.heap]; exact h.block i hi⟩

/-! ### The bytes of a slice -/

/-- THE SLICE AT a OF n BYTES: its bytes f lie at the head of block g. -/
def Bytes (w : World) (a : Option Addr) (n g : Nat) (f : Nat → Int) : Prop := ∀ k, k < n → a = some ⟨g, 0, none⟩ ∧ w.cell? ⟨g, k, none⟩ = some (.int .u8 (f k))

theorem Bytes.below {w w' : World} {B : Nat} {a : Option Addr} {n g : Nat} {f : Nat → Int} (h : Bytes w a n g f) (e : Below B w w') (hB : w.heap.size ≤ B) : Bytes w' a n g f := fun k hk =>
  ⟨(h k hk).1, by rw [e.cell (p := ⟨g, k, none⟩) (Nat.lt_of_lt_of_le (World.block_lt_of_cell? _ _ (h k hk).2) hB)]; exact (h k hk).2⟩

/-! ### The contracts -/

/-- ZZnewBytesIterator: a new block. -/
theorem new_any (a : Option Addr) (n c : Nat) (i l : Int) (w : World) :
    Calls Ebkg.prog 7 #[.slice a n c, .int .i64 i, .int .i64 l] w fun e w' => ∃ d, e = .returned (.pointer (some ⟨d, 0, none⟩)) ∧ w.heap.size ≤ d ∧ It w' d (.slice a n c) i l ∧ Below w.heap.size w w' := by
  go_enter Ebkg.func7, Ebkg.ntmps7
  go_wp2
  go_ret
  exact ⟨_, rfl, Nat.le_refl _, It.made _ _ _ _, (Below.refl _ _).alloc (Nat.le_refl _) _⟩

theorem next_raw (b : Nat) (i l : Int) (w : World) (hi0 : 0 ≤ i) (hi1 : i ≤ 1000000)
    (h1 : w.cell? ⟨b, 1, none⟩ = some (.int .i64 i)) (h2 : w.cell? ⟨b, 2, none⟩ = some (.int .i64 l)) (hf : w.frozen? ⟨b, 1, none⟩ = false) :
    Calls Ebkg.prog 13 #[.pointer (some ⟨b, 0, none⟩)] w fun e w' => e = .returned (.bool (decide (i + 1 ≤ l))) ∧ Near w' (w.setCell ⟨b, 1, none⟩ (.int .i64 (i + 1))) := by
  go_enter Ebkg.func13, Ebkg.ntmps13
  go_wp2
  go_quiet (fail)
  go_wp2
  go_ret
  exact ⟨rfl, rfl, rfl, rfl, rfl⟩

/-- (*BytesIterator).Next: the place goes one on; is it still within the length? -/
theorem next_any (b : Nat) (v : Value) (i l : Int) (w : World) (hi0 : 0 ≤ i) (hi1 : i ≤ 1000000) (h : It w b v i l) :
    Calls Ebkg.prog 13 #[.pointer (some ⟨b, 0, none⟩)] w fun e w' => e = .returned (.bool (decide (i + 1 ≤ l))) ∧ It w' b v (i + 1) l ∧ Only b w w' :=
  (next_raw b i l w hi0 hi1 h.c1 h.c2 (h.free 1)).mono fun _ _ ⟨he, hw⟩ => ⟨he, (h.set _).near hw, (only_setCell _ _ _ _).near hw⟩

theorem fields_raw (b : Nat) (a : Option Addr) (n c : Nat) (i l : Int) (w : World)
    (h0 : w.cell? ⟨b, 0, none⟩ = some (.slice a n c)) (h1 : w.cell? ⟨b, 1, none⟩ = some (.int .i64 i)) (h2 : w.cell? ⟨b, 2, none⟩ = some (.int .i64 l)) :
    Calls Ebkg.prog 9 #[.pointer (some ⟨b, 0, none⟩)] w fun e w' => e = .returned (.tuple #[.slice a n c, .int .i64 i, .int .i64 l]) ∧ Near w' w := by
  go_enter Ebkg.func9, Ebkg.ntmps9
  go_wp2
  go_quiet (fail)
  go_wp2
  go_ret3
  exact ⟨rfl, rfl, rfl, rfl, rfl⟩

/-- ZZbytesIteratorFields: the three fields. -/
theorem fields_any (b : Nat) (a : Option Addr) (n c : Nat) (i l : Int) (w : World) (h : It w b (.slice a n c) i l) :
    Calls Ebkg.prog 9 #[.pointer (some ⟨b, 0, none⟩)] w fun e w' => e = .returned (.tuple #[.slice a n c, .int .i64 i, .int .i64 l]) ∧ Near w' w :=
  fields_raw b a n c i l w h.c0 h.c1 h.c2

theorem copy_raw (b : Nat) (a : Option Addr) (n c : Nat) (i l : Int) (w : World)
    (h0 : w.cell? ⟨b, 0, none⟩ = some (.slice a n c)) (h1 : w.cell? ⟨b, 1, none⟩ = some (.int .i64 i)) (h2 : w.cell? ⟨b, 2, none⟩ = some (.int .i64 l)) :
    Calls Ebkg.prog 14 #[.pointer (some ⟨b, 0, none⟩)] w fun e w' => e = .returned (.iface 25 (.pointer (some ⟨w.heap.size, 0, none⟩))) ∧ Near w' (w.alloc (.cells #[.slice a n c, .int .i64 i, .int .i64 l] 38)) := by
  go_enter Ebkg.func14, Ebkg.ntmps14
  go_wp2
  go_region
  all_goals go_wp2
  all_goals go_ret
  all_goals exact ⟨rfl, rfl, rfl, rfl, rfl⟩

theorem assert25 (v : Option Addr) (w : World) : (Instr.typeAssert (.iface 25 (.pointer v)) 40 25 true).run Ebkg.prog w = .ok (.tuple #[.pointer v, .bool true]) w := by kernel_rfl

/-- ZZcopyBytesIterator: a new block that holds what the first one held. -/
theorem zzcopy_any (b : Nat) (a : Option Addr) (n c : Nat) (i l : Int) (w : World) (h : It w b (.slice a n c) i l) :
    Calls Ebkg.prog 8 #[.pointer (some ⟨b, 0, none⟩)] w fun e w' => ∃ d, e = .returned (.tuple #[.pointer (some ⟨d, 0, none⟩), .bool true]) ∧ w.heap.size ≤ d ∧ It w' d (.slice a n c) i l ∧ Below w.heap.size w w' := by
  have ha := assert25
  go_enter Ebkg.func8, Ebkg.ntmps8
  go_wp2_with fail
  refine (copy_raw b a n c i l w h.c0 h.c1 h.c2).mono ?_
  rintro e w1 ⟨rfl, hw⟩
  go_wp2
  go_ret2
  exact ⟨_, rfl, Nat.le_refl _, (It.made _ _ _ _).near hw, ((Below.refl _ _).alloc (Nat.le_refl _) _).trans (hw.below _)⟩

/-- zzSameBytes_b3 of a slice and itself. -/
theorem same_any (a : Option Addr) (n c g : Nat) (w : World) (f : Nat → Int) (hn : n ≤ 1000000) (h : Bytes w a n g f) :
    Calls Ebkg.prog 10 #[.slice a n c, .slice a n c] w fun e w' => e = .returned (.bool true) ∧ Near w' w := by
  go_enter Ebkg.func10, Ebkg.ntmps10
  go_wp2
  go_loopg [5] n (fun m i wr => ∃ k : Nat, k ≤ n ∧ m = n - k ∧ i = .int .i64 k ∧ Near wr w)
  case atStart => exact ⟨0, by omega, rfl, rfl, Near.refl _⟩
  case round =>
    obtain ⟨k, hk, rfl, rfl, hal⟩ := hrel
    by_cases hlt : k < n
    · obtain ⟨rfl, h0⟩ := h k hlt
      have hcell : wr.cell? ⟨g, k, none⟩ = some (.int .u8 (f k)) := by rw [hal.cell]; exact h0
      have hlt' : (k : Int) < (n : Int) := by omega
      have HA : Aside (Near wr w) := hal
      clear hal h h0
      go_wp2
      go_quiet (fail)
      go_wp2
      go_roundg (n - (k + 1))
      case measure => omega
      case rel => exact ⟨k + 1, by omega, rfl, by go_num, HA.out.heap, HA.out.os, HA.out.tape, HA.out.output⟩
    · obtain rfl : k = n := by omega
      have HA : Aside (Near wr w) := hal
      clear hal h
      go_wp2
      go_ret
      exact ⟨rfl, HA.out⟩

theorem addr_add (b o i : Nat) : (⟨b, o, none⟩ : Addr).add i = ⟨b, o + i, none⟩ := by unfold Addr.add; split <;> simp_all
theorem info5 : (Ebkg.prog.info? 5).map (fun i => (i.zero, i.size, i.bytes)) = some (some (.int .u8 0), 1, 1) := by kernel_rfl
theorem eql22 (w : World) (a : Option Addr) (n c n' c' : Nat) : (binOp .eql 22 (.slice a n c) (.slice none n' c')).run Ebkg.prog w = .ok (.bool a.isNone) w := Lib.run_eql_slice_nil w _ _ a n c n' c' Ebkg.underlying22

theorem clone_nil (w : World) :
    Calls Ebkg.prog 6 #[.slice none 0 0] w fun e w' => e = .returned (.slice none 0 0) ∧ Near w' w := by
  have q22 := eql22
  go_enter Ebkg.func6, Ebkg.ntmps6
  go_wp2
  go_ret
  exact ⟨rfl, rfl, rfl, rfl, rfl⟩

theorem clone_some (x : Addr) (n c : Nat) (f : Nat → Int) (w : World) (hn : n ≤ 65536) (hc : ∀ k, k < n → w.cell? (x.add k) = some (.int .u8 (f k))) :
    Calls Ebkg.prog 6 #[.slice (some x) n c] w fun e w' => e = .returned (.slice (some ⟨w.heap.size, 0, none⟩) n n) ∧ Below w.heap.size w w' ∧ w'.rowIs w.heap.size 5 n (fun k => .int .u8 (f k)) := by
  have q22 := eql22
  have hmk := run_make_row' (P := Ebkg.prog) 22 5 (.int .u8 0) 1 Ebkg.underlying22 info5 rfl .i64 .i64 n (by omega) (by omega)
  obtain ⟨b, off, spot⟩ := x
  go_enter Ebkg.func6, Ebkg.ntmps6
  go_wp2
  clear hmk q22
  go_loopg [4] n (fun m i wr => ∃ k : Nat, k ≤ n ∧ m = n - k ∧ i = .int .i64 k ∧ Below w.heap.size w wr ∧ wr.rowIs w.heap.size 5 n (fun j => if j < k then .int .u8 (f j) else .int .u8 0))
  case atStart => exact ⟨0, by omega, rfl, rfl, (Below.refl _ _).alloc (Nat.le_refl _) _, (World.rowIs_made w _ n 5).congr (fun j _ => by simp)⟩
  case round =>
    obtain ⟨k, hk, rfl, rfl, hbel, hrow⟩ := hrel
    by_cases hlt : k < n
    · have hsp : spot = none := by simpa [Addr.add] using World.cell?_spot (hc 0 (by omega))
      subst hsp
      have h0 : w.cell? ⟨b, off + k, none⟩ = some (.int .u8 (f k)) := by rw [← addr_add]; exact hc k hlt
      have hb : b < w.heap.size := World.block_lt_of_cell? _ _ h0
      have hcell : wr.cell? ⟨b, off + k, none⟩ = some (.int .u8 (f k)) := by rw [hbel.cell (p := ⟨b, off + k, none⟩) hb]; exact h0
      have hlt' : (k : Int) < (n : Int) := by omega
      have hst : wr.cell? ⟨w.heap.size, k, none⟩ = some (.int .u8 0) := by simpa using hrow.cell hlt
      have hfr : wr.frozen? ⟨w.heap.size, k, none⟩ = false := hrow.frozen k
      have HA : Aside (Below w.heap.size w wr ∧ wr.rowIs w.heap.size 5 n (fun j => if j < k then .int .u8 (f j) else .int .u8 0)) := ⟨hbel, hrow⟩
      clear hbel hrow hc h0 hb
      go_wp2
      go_roundg (n - (k + 1))
      case measure => omega
      case rel =>
        obtain ⟨h1, h2⟩ := HA.out
        refine ⟨k + 1, by omega, rfl, by go_num, h1.setCell (Nat.le_refl _) _, (h2.set k _).congr (fun j _ => ?_)⟩
        by_cases e : j = k
        · subst e; simp
        · rw [if_neg e]
          by_cases hj : j < k
          · rw [if_pos hj, if_pos (by omega)]
          · rw [if_neg hj, if_neg (by omega)]
    · obtain rfl : k = n := by omega
      have HA : Aside (Below w.heap.size w wr ∧ wr.rowIs w.heap.size 5 k (fun j => if j < k then .int .u8 (f j) else .int .u8 0)) := ⟨hbel, hrow⟩
      clear hbel hrow hc
      go_wp2
      go_ret
      exact ⟨rfl, HA.out.1, HA.out.2.congr (fun i hi => by rw [if_pos hi])⟩

/-- WHAT THE CLONE IS TOLD OF ITS ARGUMENT: nil; or the first n cells hold the bytes f. -/
def Given (w : World) (a : Option Addr) (n c : Nat) (f : Nat → Int) : Prop :=
  (a = none ∧ n = 0 ∧ c = 0) ∨ ∃ x, a = some x ∧ ∀ k, k < n → w.cell? (x.add k) = some (.int .u8 (f k))

/-- zzCloneBytes_b3: a slice of the same bytes, in new memory (nil stays nil). -/
theorem clone_any (a : Option Addr) (n c : Nat) (f : Nat → Int) (w : World) (hn : n ≤ 65536) (h : Given w a n c f) :
    Calls Ebkg.prog 6 #[.slice a n c] w fun e w' => ∃ a' c' g, e = .returned (.slice a' n c') ∧ Below w.heap.size w w' ∧ Bytes w' a' n g f := by
  rcases h with ⟨rfl, rfl, rfl⟩ | ⟨x, rfl, hc⟩
  · exact (clone_nil w).mono fun _ _ ⟨he, hw⟩ => ⟨none, 0, 0, he, hw.below _, fun k hk => absurd hk (Nat.not_lt_zero _)⟩
  · exact (clone_some x n c f w hn hc).mono fun _ _ ⟨he, hb, hr⟩ => ⟨_, n, w.heap.size, he, hb, fun k hk => ⟨rfl, hr.cell hk⟩⟩
end Go.Proofs.Yoebkw
