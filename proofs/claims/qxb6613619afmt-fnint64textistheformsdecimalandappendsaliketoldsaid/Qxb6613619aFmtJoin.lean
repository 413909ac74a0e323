/-
  THE WALKS OF zzBytes, zzCopyBytes, zzSameBytes AND zzIsJoin (the law on the text and on AppendText).
-/
import Derived.Test.Qxb6613619aFmtApp2
import Derived.Test.Qxb6613619aFmtCmp
import Derived.Deep.OwnRows
import Derived.Lib.SliceRun
namespace Go.Proofs.Qxb6613619aFmt
open Go.RowKit Go.Extern.Stop Go.Stop Go.Extern
open Go.Lib (nDigits decDigits)
set_option maxRecDepth 100000

/-- What came in: nothing, or bytes in memory. -/
def PreAt (w : World) (p : Option Addr) (n : Nat) (x : Nat → Int) : Prop := n = 0 ∨ ∃ b o, p = some ⟨b, o, none⟩ ∧ b < w.heap.size ∧ Bytes w b o n x
theorem PreAt.later {w w' : World} {p : Option Addr} {n : Nat} {x : Nat → Int} (h : PreAt w p n x) (hb : Below w.heap.size w w') : PreAt w' p n x := by
  rcases h with h0 | ⟨b, o, hp, hlt, hc⟩
  · exact .inl h0
  · exact .inr ⟨b, o, hp, Nat.lt_of_lt_of_le hlt hb.size, hc.later hlt hb⟩

def Boolean (e : Ending) : Prop := ∃ b, e = .returned (.bool b)
theorem bytes7_any (ms c n : Int) (p : Option Addr) (len cap : Nat) (w : World) (hm : len ≤ maxLen) : Calls Tryf.prog 7 #[.int .i64 ms, .int .i64 c, .int .i64 n, .slice p len cap] w fun e w' => Boolean e ∧ w' = w := by
  have hm' : maxLen = 9223372036854775807 := rfl
  rcases (by omega : 1048576 < len ∨ len ≤ 1048576) with h | h
  all_goals
    go_enter Tryf.func7, Tryf.ntmps7
    go_wp2
    go_ret
    exact ⟨⟨_, rfl⟩, rfl⟩

theorem eql_some (a : Addr) (n c : Nat) (w : World) : (binOp .eql 22 (.slice (some a) n c) (.slice none 0 0)).run Tryf.prog w = .ok (.bool false) w := Lib.run_eql_slice_nil (P := Tryf.prog) w 22 5 (some a) n c 0 0 Tryf.underlying22
theorem eql_none (n c : Nat) (w : World) : (binOp .eql 22 (.slice none n c) (.slice none 0 0)).run Tryf.prog w = .ok (.bool true) w := Lib.run_eql_slice_nil (P := Tryf.prog) w 22 5 none n c 0 0 Tryf.underlying22
theorem copy_nil (len cap : Nat) (w : World) : Calls Tryf.prog 8 #[.slice none len cap] w fun e w' => e = .returned (.slice none 0 0) ∧ w' = w := by
  have hq := eql_none len cap
  go_enter Tryf.func8, Tryf.ntmps8
  go_wp2
  go_ret
  exact ⟨rfl, rfl⟩
theorem made (n : Nat) (hn : n ≤ 65536) (W : World) : (Instr.makeSlice 22 (.int .i64 (n : Int)) (.int .i64 (n : Int))).run Tryf.prog W = .ok (.slice (some ⟨W.heap.size, 0, none⟩) n n) (W.alloc (.cells (madeCells #[.int .u8 0] n) 5)) :=
  run_make_row' 22 5 (.int .u8 0) 1 Tryf.underlying22 info5 rfl .i64 .i64 n (by omega) (by omega) W

/-- The copy as far as k: a row of n cells of the call's own, the first k of them what came in. -/
def Copied (B n k : Nat) (x : Nat → Int) (w wr : World) : Prop := (∃ cur : Array Value, wr.heap[B]? = some (.cells cur 5 (0, 0)) ∧ cur.size = n ∧ ∀ j, j < k → cur[j]? = some (.int .u8 (x j))) ∧ Below B w wr
theorem copied_store {B n k : Nat} {x : Nat → Int} {w wr : World} (h : Copied B n k x w wr) (hk : k < n) : Copied B n (k + 1) x w (wr.setCell ⟨B, k, none⟩ (.int .u8 (x k))) := by
  obtain ⟨⟨cur, hc, hs, hx⟩, hb⟩ := h
  refine ⟨⟨_, heap_setCell_same wr B k cur 5 _ hc, by simpa using hs, fun j hj => ?_⟩, hb.setCell (Nat.le_refl _) _⟩
  by_cases e : j = k
  · subst e
    simp [hs, hk]
  · rw [Array.getElem?_setIfInBounds_ne (fun q => e q.symm)]
    exact hx j (by omega)
theorem copied_cell {B n k : Nat} {x : Nat → Int} {w wr : World} (h : Copied B n k x w wr) (hk : k < n) : ∃ v, wr.cell? ⟨B, k, none⟩ = some v := by
  obtain ⟨⟨cur, hc, hs, hx⟩, hb⟩ := h
  exact ⟨cur[k]'(by omega), by simp [World.cell?, hc]⟩
theorem copied_free {B n k : Nat} {x : Nat → Int} {w wr : World} (h : Copied B n k x w wr) (j : Nat) : wr.frozen? ⟨B, j, none⟩ = false := by
  obtain ⟨⟨cur, hc, hs, hx⟩, hb⟩ := h
  simp [World.frozen?, hc]

/-- The bytes as cells. -/
def cellsOf (x : Nat → Int) (n : Nat) : List Value := (List.range n).map fun k => .int .u8 (x k)
theorem copied_own {B n : Nat} {x : Nat → Int} {w wr : World} (hn : n ≤ 65536) (h : Copied B n n x w wr) : wr.ownsRow 0 5 1 (.slice (some ⟨B, 0, none⟩) n n) n (cellsOf x n) := by
  obtain ⟨⟨cur, hc, hs, hx⟩, hb⟩ := h
  refine ⟨by simp [cellsOf], .inr ⟨B, n, cur, rfl, Nat.zero_le _, hc, Nat.le_refl _, by unfold maxLen; omega, by omega, ?_⟩⟩
  apply List.ext_getElem?
  intro j
  by_cases hj : j < n
  · rw [List.getElem?_take_of_lt (by omega)]
    simp [cellsOf, hj, hx j hj]
  · rw [List.getElem?_eq_none (by simp; omega), List.getElem?_eq_none (by simp [cellsOf]; omega)]

set_option maxHeartbeats 2000000 in
theorem copy_some (b o n cap : Nat) (B : Nat) (x : Nat → Int) (w : World) (hn : n ≤ 65536) (hlt : b < w.heap.size) (hB0 : w.heap.size = B) (hx : Hid (Bytes w b o n x)) :
    Calls Tryf.prog 8 #[.slice (some ⟨b, o, none⟩) n cap] w fun e w' => e = .returned (.slice (some ⟨B, 0, none⟩) n n) ∧ Copied B n n x w w' := by
  have hmk := made n hn
  have hq := eql_some ⟨b, o, none⟩ n cap
  have hB : Hid (w.heap.size = B) := hB0
  have hne : b ≠ B := by omega
  clear hB0
  have hst : Copied w.heap.size n 0 x w (w.alloc (.cells (madeCells #[.int .u8 0] n) 5)) := ⟨⟨_, heap_alloc_new w _, size_madeCells _ _, fun j hj => by omega⟩, (Below.refl _ _).alloc (Nat.le_refl _) _⟩
  go_enter Tryf.func8, Tryf.ntmps8
  go_wp2_with fail
  clear hmk hq
  generalize (w.alloc (.cells (madeCells #[.int .u8 0] n) 5)) = w1 at hst ⊢
  rw [hB.out] at hst ⊢
  go_loopw [4] (fun i wr => ∃ k : Nat, k ≤ n ∧ i = .int .i64 k ∧ Copied B n k x w wr) (fun i _ => n - (intOf i).toNat)
  case atStart => exact ⟨0, Nat.zero_le _, rfl, hst⟩
  case round =>
    obtain ⟨k, hk, rfl, hf⟩ := hrel
    have HF := Lib.hid hf
    clear hf
    by_cases hlt' : k < n
    · obtain ⟨v, h2⟩ := copied_cell HF.out hlt'
      have h3 := copied_free HF.out k
      have h1 : wr.cell? ⟨b, o + k, none⟩ = some (.int .u8 (x k)) := by
        rw [HF.out.2.cell (p := ⟨b, o + k, none⟩) (by rw [← hB.out]; exact hlt)]
        exact hx.out k hlt'
      have HR := Lib.hid (copied_store HF.out hlt')
      go_wp2
      go_roundw
      case rel => exact ⟨k + 1, by omega, by simp, HR.out⟩
      case measure => simp [intOf]; omega
    · obtain rfl : k = n := by omega
      go_wp2
      go_ret
      exact ⟨rfl, HF.out⟩
set_option maxHeartbeats 2000000 in
theorem copy_zero (a : Addr) (cap : Nat) (B : Nat) (x : Nat → Int) (w : World) (hB0 : w.heap.size = B) :
    Calls Tryf.prog 8 #[.slice (some a) 0 cap] w fun e w' => e = .returned (.slice (some ⟨B, 0, none⟩) 0 0) ∧ Copied B 0 0 x w w' := by
  have hmk : ∀ W : World, (Instr.makeSlice 22 (.int .i64 0) (.int .i64 0)).run Tryf.prog W = .ok (.slice (some ⟨W.heap.size, 0, none⟩) 0 0) (W.alloc (.cells (madeCells #[.int .u8 0] 0) 5)) := made 0 (by omega)
  have hq := eql_some a 0 cap
  have hB : Hid (w.heap.size = B) := hB0
  clear hB0
  have hst : Copied w.heap.size 0 0 x w (w.alloc (.cells (madeCells #[.int .u8 0] 0) 5)) := ⟨⟨_, heap_alloc_new w _, size_madeCells _ _, fun j hj => by omega⟩, (Below.refl _ _).alloc (Nat.le_refl _) _⟩
  go_enter Tryf.func8, Tryf.ntmps8
  go_wp2_with fail
  clear hmk hq
  generalize (w.alloc (.cells (madeCells #[.int .u8 0] 0) 5)) = w1 at hst ⊢
  rw [hB.out] at hst ⊢
  refine wp_loop_rounds 1 ?_
  rw [rounds_succ]
  go_wp2
  go_ret
  exact ⟨rfl, hst⟩

theorem same_zero (p q : Option Addr) (c d : Nat) (w : World) : Calls Tryf.prog 12 #[.slice q 0 d, .slice p 0 c] w fun e w' => e = .returned (.bool true) ∧ w' = w := by
  go_enter Tryf.func12, Tryf.ntmps12
  go_wp2_with fail
  refine wp_loop_rounds 1 ?_
  rw [rounds_succ]
  go_wp2
  go_ret
  exact ⟨rfl, rfl⟩
set_option maxHeartbeats 2000000 in
theorem same_c (b1 o1 c1 b2 o2 c2 n : Nat) (x : Nat → Int) (w : World) (hn : n ≤ 1048576) (hx : Hid (Bytes w b1 o1 n x)) (hy : Hid (Bytes w b2 o2 n x)) :
    Calls Tryf.prog 12 #[.slice (some ⟨b1, o1, none⟩) n c1, .slice (some ⟨b2, o2, none⟩) n c2] w fun e w' => e = .returned (.bool true) ∧ ∃ m, w' = w.drewN m := by
  go_enter Tryf.func12, Tryf.ntmps12
  go_wp2_with fail
  go_loopw [5] (fun i wr => ∃ k : Nat, k ≤ n ∧ i = .int .i64 k ∧ ∃ m, wr = w.drewN m) (fun i _ => n - (intOf i).toNat)
  case atStart => exact ⟨0, Nat.zero_le _, rfl, 0, rfl⟩
  case round =>
    obtain ⟨k, hk, rfl, m, rfl⟩ := hrel
    by_cases hlt : k < n
    · have cx := hx.out k hlt
      have cy := hy.out k hlt
      have i1 : (k : Int) < (n : Int) := by omega
      have i0 : (0 : Int) ≤ (k : Int) := by omega
      go_wp2_with fail
      go_quiet (fail)
      go_wp2
      go_roundw
      case rel => exact ⟨k + 1, by omega, by go_num, by first | exact dN _ _ _ | exact ⟨_, rfl⟩⟩
      case measure => simp [intOf]; omega
    · go_wp2
      go_ret
      exact ⟨rfl, by first | exact dN _ _ _ | exact ⟨_, rfl⟩⟩
set_option maxHeartbeats 4000000 in
theorem join_c (b o c g og cg gt ot ct n nd : Nat) (x y : Nat → Int) (w : World) (hn : n ≤ 65536) (hd : nd ≤ 19) (hp : Hid (Bytes w b o n x)) (h1 : Hid (Bytes w g og n x)) (h2 : Hid (∀ k, k < nd → w.cell? ⟨g, og + (n + k), none⟩ = some (.int .u8 (y k)))) (ht : Hid (Bytes w gt ot nd y)) :
    Calls Tryf.prog 15 #[.slice (some ⟨g, og, none⟩) (n + nd) cg, .slice (some ⟨b, o, none⟩) n c, .slice (some ⟨gt, ot, none⟩) nd ct] w fun e w' => e = .returned (.bool true) ∧ ∃ m, w' = w.drewN m := by
  go_enter Tryf.func15, Tryf.ntmps15
  go_wp2_with fail
  go_loopw [7] (fun i wr => ∃ k : Nat, k ≤ n ∧ i = .int .i64 k ∧ ∃ m, wr = w.drewN m) (fun i _ => n - (intOf i).toNat)
  case atStart => exact ⟨0, Nat.zero_le _, rfl, 0, rfl⟩
  case round =>
    obtain ⟨k, hk, rfl, m, rfl⟩ := hrel
    by_cases hlt : k < n
    · have cx := h1.out k hlt
      have cy := hp.out k hlt
      have i1 : (k : Int) < (n : Int) := by omega
      have i2 : (k : Int) < (n : Int) + (nd : Int) := by omega
      have i0 : (0 : Int) ≤ (k : Int) := by omega
      go_wp2_with fail
      go_quiet (fail)
      go_wp2
      go_roundw
      case rel => exact ⟨k + 1, by omega, by go_num, by first | exact dN _ _ _ | exact ⟨_, rfl⟩⟩
      case measure => simp [intOf]; omega
    · go_wp2_with fail
      go_loopw [8] (fun i wr => ∃ k : Nat, k ≤ nd ∧ i = .int .i64 k ∧ ∃ m, wr = w.drewN m) (fun i _ => nd - (intOf i).toNat)
      case atStart => exact ⟨0, Nat.zero_le _, rfl, m, rfl⟩
      case round =>
        clear hk hlt
        obtain ⟨j, hj, rfl, m, rfl⟩ := hrel
        by_cases hlt : j < nd
        · have cx := h2.out j hlt
          have cy := ht.out j hlt
          have i1 : (j : Int) < (nd : Int) := by omega
          have i2 : (n : Int) + (j : Int) < (n : Int) + (nd : Int) := by omega
          have i0 : (0 : Int) ≤ (j : Int) := by omega
          have i3 : (0 : Int) ≤ (n : Int) + (j : Int) := by omega
          go_wp2_with fail
          go_quiet (fail)
          go_wp2
          go_roundw
          case rel => exact ⟨j + 1, by omega, by go_num, by first | exact dN _ _ _ | exact ⟨_, rfl⟩⟩
          case measure => simp [intOf]; omega
        · go_wp2
          go_ret
          exact ⟨rfl, by first | exact dN _ _ _ | exact ⟨_, rfl⟩⟩
set_option maxHeartbeats 4000000 in
theorem join_zero (p : Option Addr) (c g og cg gt ot ct nd : Nat) (y : Nat → Int) (w : World) (hd : nd ≤ 19) (h2 : Hid (Bytes w g og nd y)) (ht : Hid (Bytes w gt ot nd y)) :
    Calls Tryf.prog 15 #[.slice (some ⟨g, og, none⟩) nd cg, .slice p 0 c, .slice (some ⟨gt, ot, none⟩) nd ct] w fun e w' => e = .returned (.bool true) ∧ ∃ m, w' = w.drewN m := by
  go_enter Tryf.func15, Tryf.ntmps15
  go_wp2_with fail
  refine wp_loop_rounds 1 ?_
  rw [rounds_succ]
  go_wp2_with fail
  go_loopw [8] (fun i wr => ∃ k : Nat, k ≤ nd ∧ i = .int .i64 k ∧ ∃ m, wr = w.drewN m) (fun i _ => nd - (intOf i).toNat)
  case atStart => exact ⟨0, Nat.zero_le _, rfl, 0, rfl⟩
  case round =>
    obtain ⟨j, hj, rfl, m, rfl⟩ := hrel
    by_cases hlt : j < nd
    · have cx := h2.out j hlt
      have cy := ht.out j hlt
      have i1 : (j : Int) < (nd : Int) := by omega
      have i0 : (0 : Int) ≤ (j : Int) := by omega
      go_wp2_with fail
      go_quiet (fail)
      go_wp2
      go_roundw
      case rel => exact ⟨j + 1, by omega, by go_num, by first | exact dN _ _ _ | exact ⟨_, rfl⟩⟩
      case measure => simp [intOf]; omega
    · go_wp2
      go_ret
      exact ⟨rfl, by first | exact dN _ _ _ | exact ⟨_, rfl⟩⟩

/-- AppendText onto a row of the call's own, at a value that is held. -/
def AppOwn (n u : Nat) (sv : Value) (xs : List Value) (w : World) (e : Ending) (w' : World) : Prop :=
  ∃ g cap, e = .returned (.tuple #[.slice (some ⟨g, 0, none⟩) (n + nDigits u) cap, .nilIface]) ∧ w'.ownsRow 0 5 1 (.slice (some ⟨g, 0, none⟩) (n + nDigits u) cap) (n + nDigits u) (xs ++ Lib.byteCells (decDigits u)) ∧ w.grownBy w' sv.ownBlock
theorem own_shape {w : World} {n : Nat} {v : Value} {xs : List Value} (h : w.ownsRow 0 5 1 v n xs) (hn : 0 < n) : ∃ g cap, v = .slice (some ⟨g, 0, none⟩) n cap := by
  rcases h with ⟨_, ⟨_, h0⟩ | ⟨g, cap, cur, rfl, _⟩⟩
  · omega
  · exact ⟨g, cap, rfl⟩
theorem grown_of_below {w w' : World} (hb : Below w.heap.size w w') (row : Option Nat) : w.grownBy w' row := ⟨hb.os, hb.tape, hb.output, hb.size, fun k hk _ => hb.block k hk⟩
set_option maxHeartbeats 2000000 in
theorem app_own (ms c nn : Int) (u n : Nat) (p : Option Addr) (cap : Nat) (xs : List Value) (w : World) (ht : PowTab w) (h : Held ms c nn) (HU : Hid ((form64 ms c nn).toNat = u)) (hown : w.ownsRow 0 5 1 (.slice p n cap) n xs) (hlim : n ≤ 65536) :
    Calls Tryf.prog 10 #[.agg #[.int .i64 ms, .int .i64 c, .int .i64 nn], .slice p n cap] w (AppOwn n u (.slice p n cap) xs w) := by
  have hb0 := (Below.refl w.heap.size w).alloc (Nat.le_refl _) (.cells #[.int .i64 ms, .int .i64 c, .int .i64 nn] 26)
  have hf := form64_bd ms c nn h
  have HH : Hid (Held ms c nn) := h
  have HO := Lib.hid hown
  have HT : Hid (PowTab w) := ht
  clear h ht hown
  go_enter Tryf.func10, Tryf.ntmps10
  go_wp2_with fail
  refine (int64_yes ms c nn _ HH.out).mono ?_
  rintro e w1 ⟨rfl, hb⟩
  have HB : Hid (Below w.heap.size w w1) := hb0.trans (hb.mono (by simp))
  have HT1 : Hid (PowTab w1) := HT.out.later HB.out
  have HO1 := Lib.hid (HO.out.kept (grown_of_below HB.out none) (by simp [Value.ownBlock]; cases p <;> simp))
  clear hb hb0
  have hfu : form64 ms c nn = (u : Int) := by have := HU.out; omega
  rw [hfu] at hf ⊢
  have HA := Lib.hid (appInt_own n u (by omega) p cap xs w1 HO1.out (by omega) HT1.out)
  clear hfu
  go_wp2_with fail
  refine HA.out.mono ?_
  rintro e w2 ⟨v', rfl, h1, h2⟩
  obtain ⟨g, cap', rfl⟩ := own_shape h1 (by have := Lib.nDigits_pos u; omega)
  have H1 := Lib.hid h1
  have H2 := Lib.hid h2
  clear h1 h2 HA HO1 HT1
  obtain ⟨nd, HD⟩ : ∃ v, Hid (n + nDigits u = v) := ⟨_, rfl⟩
  rw [HD.out]
  go_wp2
  go_ret2
  refine ⟨g, cap', by rw [HD.out]; rfl, H1.out, (grown_of_below HB.out _).trans H2.out⟩
end Go.Proofs.Qxb6613619aFmt
