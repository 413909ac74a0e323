/-
  THE HOLDER: what its blocks are; NewReportsByWorker and ZZworkerCount walked.
-/
import Derived.Test.Qxb6613686aProg
import Derived.WalkKit
import Derived.Laws.MakeOwn
import Derived.Maps.OwnSet
namespace Go.Proofs.Qxb6613686a
open Go.RowKit Go.Maps
abbrev zero50 : Value := .agg #[.int .i64 0, .int .i64 0, .int .u32 0, .int .u32 0, .int .i32 0, .int .i32 0, .int .i32 0]
theorem info50 : (Try.prog.info? 50).map (fun i => (i.zero, i.size, i.bytes)) = some (some zero50, 7, 40) := by kernel_rfl
theorem info9 : (Try.prog.info? 9).map (fun i => (i.zero, i.size, i.bytes)) = some (some (.string ⟨#[]⟩), 1, 16) := by kernel_rfl
theorem info39 : (Try.prog.info? 39).map (fun i => (i.zero, i.size, i.bytes)) = some (some (.slice none 0 0), 1, 24) := by kernel_rfl
theorem info5 : (Try.prog.info? 5).map (fun i => (i.zero, i.size, i.bytes)) = some (some (.int .u8 0), 1, 1) := by kernel_rfl
theorem count_c (b : Nat) (ws : Option Addr) (n k : Nat) (w : World) (h : w.cell? ⟨b, 0, none⟩ = some (.slice ws n k)) :
    Calls Try.prog 10 #[.pointer (some ⟨b, 0, none⟩)] w fun e w' => e = .returned (.int .i64 n) ∧ w' = w := by
  go_enter Try.func10, Try.ntmps10
  go_wp2
  go_ret
  exact ⟨rfl, rfl⟩
theorem made_workers (n : Nat) (hn : n ≤ 65536) : ∃ M : Array Value, M.size = n * 7 ∧ ∀ W : World, (Instr.makeSlice 42 (.int .i64 (n : Int)) (.int .i64 (n : Int))).run Try.prog W = .ok (.slice (some ⟨W.heap.size, 0, none⟩) n n) (W.alloc (.cells M 50)) := by
  obtain ⟨i0, hi, hz0, hz1, hz2⟩ := info_parts info50
  refine ⟨madeCells zero50.cells (((n : Nat) : Int).toNat * i0.size), by rw [size_madeCells, hz1]; simp, fun W => ?_⟩
  have h := run_make (P := Try.prog) W 42 50 i0 zero50 Try.underlying42 hi hz0 .i64 .i64 (n : Int) (n : Int) (by omega) (by omega) (by rw [hz2]; omega) (by omega)
  simpa using h
theorem made_slab : ∃ M : Array Value, M.size = 1048576 ∧ ∀ W : World, (Instr.makeSlice 39 (.int .i64 1048576) (.int .i64 1048576)).run Try.prog W = .ok (.slice (some ⟨W.heap.size, 0, none⟩) 1048576 1048576) (W.alloc (.cells M 5)) := by
  obtain ⟨i0, hi, hz0, hz1, hz2⟩ := info_parts info5
  refine ⟨madeCells (Value.int .u8 0).cells ((1048576 : Int).toNat * i0.size), by rw [size_madeCells, hz1]; rfl, fun W => ?_⟩
  exact run_make (P := Try.prog) W 39 5 i0 (.int .u8 0) Try.underlying39 hi hz0 .i64 .i64 1048576 1048576 (by omega) (by omega) (by rw [hz2]; decide) (by decide)
/-- What a new holder's three blocks are: the workers' row, the employers' map, the holder's own cells. -/
def Fresh (B n : Nat) (w wr : World) : Prop :=
  (∃ cur : Array Value, wr.heap[B]? = some (.cells cur 50 (0, 0)) ∧ cur.size = n * 7) ∧ wr.heap[B + 1]? = some (.map #[] 0) ∧
  wr.heap[B + 1 + 1]? = some (.cells #[.slice (some ⟨B, 0, none⟩) n n, .slice none 0 0, .int .i64 0, .slice none 0 0, .map (some (B + 1)), .slice none 0 0] 47 (0, 0)) ∧ Below B w wr
theorem fresh_store {B n : Nat} {w wr : World} (h : Fresh B n w wr) (j : Nat) (u : Value) : Fresh B n w (wr.setCell ⟨B, j, none⟩ u) := by
  obtain ⟨⟨cur, hc, hs⟩, h1, h2, hb⟩ := h
  refine ⟨⟨_, heap_setCell_same wr B j cur 50 u hc, by simpa using hs⟩, ?_, ?_, hb.setCell (Nat.le_refl _) u⟩
  · rw [heap_setCell_other _ _ _ _ (by simp)]; exact h1
  · rw [heap_setCell_other _ _ _ _ (by simp; omega)]; exact h2
theorem fresh_cell {B n : Nat} {w wr : World} (h : Fresh B n w wr) : wr.cell? ⟨B + 1 + 1, 0, none⟩ = some (.slice (some ⟨B, 0, none⟩) n n) := by
  simp [World.cell?, h.2.2.1]
theorem fresh_row {B n : Nat} {w wr : World} (h : Fresh B n w wr) (j : Nat) (hj : j < n * 7) : ∃ v, wr.cell? ⟨B, j, none⟩ = some v := by
  obtain ⟨⟨cur, hc, hs⟩, _⟩ := h
  refine ⟨cur[j]'(by omega), ?_⟩
  simp [World.cell?, hc]
theorem fresh_free {B n : Nat} {w wr : World} (h : Fresh B n w wr) (j : Nat) : wr.frozen? ⟨B, j, none⟩ = false := by
  obtain ⟨⟨cur, hc, hs⟩, _⟩ := h
  simp [World.frozen?, hc]
theorem fresh_start (n : Nat) (w : World) (M : Array Value) (hM : M.size = n * 7) : Fresh w.heap.size n w (((w.alloc (.cells M 50)).alloc (.map #[] 0)).alloc (.cells #[.slice (some ⟨w.heap.size, 0, none⟩) n n, .slice none 0 0, .int .i64 0, .slice none 0 0, .map (some (w.heap.size + 1)), .slice none 0 0] 47)) := by
  refine ⟨⟨M, ?_, hM⟩, ?_, ?_, ((((Below.refl _ _).alloc (Nat.le_refl _) _).alloc (by simp) _).alloc (by simp; omega) _)⟩
  · rw [Below.heap_alloc _ _ _ (by simp; omega), Below.heap_alloc _ _ _ (by simp)]
    exact heap_alloc_new w _
  · rw [Below.heap_alloc _ _ _ (by simp)]
    have := heap_alloc_new (w.alloc (.cells M 50)) (.map #[] 0)
    simpa using this
  · have := heap_alloc_new ((w.alloc (.cells M 50)).alloc (.map #[] 0)) (.cells #[.slice (some ⟨w.heap.size, 0, none⟩) n n, .slice none 0 0, .int .i64 0, .slice none 0 0, .map (some (w.heap.size + 1)), .slice none 0 0] 47)
    simpa using this
set_option maxHeartbeats 1000000 in
theorem new_c (n : Nat) (B : Nat) (w : World) (hn : n ≤ 65536) (hB0 : w.heap.size = B) :
    Calls Try.prog 9 #[.int .i64 n] w fun e w' => e = .returned (.pointer (some ⟨B + 1 + 1, 0, none⟩)) ∧ Fresh B n w w' := by
  have hB : Hid (w.heap.size = B) := hB0
  clear hB0
  have hmm := @run_makeMap Try.prog
  obtain ⟨M, hM, hmk⟩ := made_workers n hn
  have hst := fresh_start n w M hM
  go_enter Try.func9, Try.ntmps9
  go_wp2_with fail
  clear hmk hmm hM
  generalize (((w.alloc (.cells M 50)).alloc (.map #[] 0)).alloc (.cells #[.slice (some ⟨w.heap.size, 0, none⟩) n n, .slice none 0 0, .int .i64 0, .slice none 0 0, .map (some (w.heap.size + 1)), .slice none 0 0] 47)) = w1 at hst ⊢
  rw [hB.out] at hst ⊢
  clear hB
  go_loopw [15] (fun i wr => ∃ k : Nat, k ≤ n ∧ i = .int .i64 k ∧ Fresh B n w wr) (fun i _ => n - (intOf i).toNat)
  case atStart => exact ⟨0, Nat.zero_le _, rfl, hst⟩
  case round =>
    obtain ⟨k, hk, rfl, hf⟩ := hrel
    have h1 := fresh_cell hf
    have HF : Hid (Fresh B n w wr) := hf
    clear hf
    by_cases hlt : k < n
    · obtain ⟨v, h2⟩ := fresh_row HF.out (k * 7 + 6) (by omega)
      have h3 := fresh_free HF.out (k * 7 + 6)
      have R := fresh_store HF.out (k * 7 + 6) (.int .i32 (-1))
      have HR : Hid (Fresh B n w (wr.setCell ⟨B, k * 7 + 6, none⟩ (.int .i32 (-1)))) := R
      clear R
      go_wp2
      go_roundw
      case rel => exact ⟨k + 1, by omega, by simp, HR.out⟩
      case measure => simp [intOf]; omega
    · go_wp2
      go_ret
      exact ⟨rfl, HF.out⟩

/-- A holder in block b, all of whose blocks are from B on: n workers, c chunks taken, ne employers, the index reads as D. -/
def Hold (B b n c ne : Nat) (D : DataW Unit) (w : World) : Prop := ∃ ws bm sv ev ss es km ns, B ≤ b ∧ B ≤ bm ∧ ns ≤ c ∧ km ≤ ne ∧
  w.heap[b]? = some (.cells #[.slice ws n n, sv, .int .i64 c, ev, .map (some bm), .slice none 0 0] 47 (0, 0)) ∧
  w.ownsMap Try.prog 9 (plainElem Try.prog 21) bm km D ∧ w.ownsRow B 39 1 sv ns ss ∧ w.ownsRow B 9 1 ev ne es
theorem hold_fresh {B n : Nat} {w wr : World} (h : Fresh B n w wr) : Hold B (B + 1 + 1) n 0 0 (.map []) wr :=
  ⟨_, B + 1, _, _, [], [], 0, 0, by omega, by omega, Nat.le_refl _, Nat.le_refl _, h.2.2.1, ⟨#[], 0, h.2.1, ⟨by simp, MapKept.stamped_empty 0, by simp⟩, by simp, by simp⟩, World.ownsRow_nil _ _ _ _, World.ownsRow_nil _ _ _ _⟩
/-- A holder below block number B' stays, whatever happens from B' on. -/
theorem Hold.below {B b n c ne B' : Nat} {D : DataW Unit} {w w' : World} (h : Hold B b n c ne D w) (hB : w.heap.size ≤ B') (hb : Below B' w w') : Hold B b n c ne D w' := by
  have hg : w.grownBy w' none := ⟨hb.os, hb.tape, hb.output, hb.size, fun k hk _ => hb.block k (Nat.lt_of_lt_of_le hk hB)⟩
  obtain ⟨ws, bm, sv, ev, ss, es, km, ns, h1, h2, h3, h4, h5, h6, h7, h8⟩ := h
  exact ⟨ws, bm, sv, ev, ss, es, km, ns, h1, h2, h3, h4, (hg.block b (lt_of_block h5) (by simp)).trans h5, h6.kept hg (by simp), h7.kept hg (by cases sv.ownBlock <;> simp), h8.kept hg (by cases ev.ownBlock <;> simp)⟩
end Go.Proofs.Qxb6613686a
