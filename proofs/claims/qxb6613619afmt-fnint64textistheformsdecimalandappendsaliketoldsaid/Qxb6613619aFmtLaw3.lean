/-
  THE WALK OF THE LAW FnInt64TextIsTheFormsDecimalAndAppendsAlike.
-/
import Derived.Test.Qxb6613619aFmtJoin
import Derived.Test.Qxb6613619aFmtLaw4
import Derived.Deep.AppendLies
namespace Go.Proofs.Qxb6613619aFmt
open Go.RowKit Go.Extern.Stop Go.Stop Go.Extern
open Go.Lib (nDigits decDigits)
set_option maxRecDepth 100000

/-- zzCopyBytes: a row of the call's own with the bytes that came in, or nil. -/
def CopyOut (n : Nat) (x : Nat → Int) (w : World) (e : Ending) (w' : World) : Prop :=
  ∃ q d, e = .returned (.slice q n d) ∧ w'.ownsRow 0 5 1 (.slice q n d) n (cellsOf x n) ∧ (∀ k, (Value.slice q n d).ownBlock = some k → w.heap.size ≤ k ∧ k < w'.heap.size) ∧ Below w.heap.size w w'
theorem copied_out {n : Nat} {x : Nat → Int} {w w' : World} (hn : n ≤ 65536) (h : Copied w.heap.size n n x w w') : CopyOut n x w (.returned (.slice (some ⟨w.heap.size, 0, none⟩) n n)) w' := by
  refine ⟨_, _, rfl, copied_own hn h, fun k hk => ?_, h.2⟩
  simp only [Value.ownBlock, Option.some.injEq] at hk
  obtain ⟨⟨cur, hc, _⟩, _⟩ := h
  subst hk
  exact ⟨Nat.le_refl _, lt_of_block hc⟩
theorem copy_c (p : Option Addr) (n cap : Nat) (x : Nat → Int) (w : World) (hn : n ≤ 65536) (h : PreAt w p n x) : Calls Tryf.prog 8 #[.slice p n cap] w (CopyOut n x w) := by
  cases p with
  | none =>
    have h0 : n = 0 := by rcases h with h | ⟨b, o, hp, _⟩; exact h; cases hp
    subst h0
    refine (copy_nil 0 cap w).mono ?_
    rintro e w' ⟨rfl, rfl⟩
    exact ⟨none, 0, rfl, World.ownsRow_nil _ _ _ _, fun k hk => by simp [Value.ownBlock] at hk, Below.refl _ _⟩
  | some a =>
    rcases h with h | ⟨b, o, hp, hlt, hb⟩
    · subst h
      refine (copy_zero a cap w.heap.size x w rfl).mono ?_
      rintro e w' ⟨rfl, h⟩
      exact copied_out hn h
    · cases hp
      refine (copy_some b o n cap w.heap.size x w hn hlt rfl hb).mono ?_
      rintro e w' ⟨rfl, h⟩
      exact copied_out hn h

theorem own_bytes {w : World} {g cap n : Nat} {xs : List Value} (h : w.ownsRow 0 5 1 (.slice (some ⟨g, 0, none⟩) n cap) n xs) (j : Nat) (v : Value) (hj : xs[j]? = some v) : w.cell? ⟨g, 0 + j, none⟩ = some v := by
  have hl := (List.getElem?_eq_some_iff.1 hj).1
  have := h.cellAt j (by rw [← h.1]; exact hl)
  rw [Nat.zero_add, this]
  exact hj
theorem cellsOf_at (x : Nat → Int) (n k : Nat) (hk : k < n) : (cellsOf x n)[k]? = some (.int .u8 (x k)) := by simp [cellsOf, hk]
theorem cellsOf_len (x : Nat → Int) (n : Nat) : (cellsOf x n).length = n := by simp [cellsOf]
theorem digit_at (u k : Nat) (hk : k < nDigits u) : (Lib.byteCells (decDigits u))[k]? = some (.int .u8 (Cal.dx u k)) := by
  have hl : k < (decDigits u).length := by rw [Lib.decDigits_length]; exact hk
  simp [Lib.byteCells, Cal.dx, List.getD_eq_getElem?_getD, List.getElem?_eq_getElem hl]

/-- zzSameBytes of the copy and what came in. -/
def Yes (w : World) (e : Ending) (w' : World) : Prop := e = .returned (.bool true) ∧ ∃ m, w' = w.drewN m
theorem same_u (q p : Option Addr) (n d c : Nat) (x : Nat → Int) (w : World) (hn : n ≤ 65536) (ho : w.ownsRow 0 5 1 (.slice q n d) n (cellsOf x n)) (h : PreAt w p n x) : Calls Tryf.prog 12 #[.slice q n d, .slice p n c] w (Yes w) := by
  by_cases h0 : n = 0
  · subst h0
    refine (same_zero p q c d w).mono ?_
    rintro e w' ⟨rfl, rfl⟩
    exact ⟨rfl, 0, rfl⟩
  · rcases h with h | ⟨b, o, rfl, hlt, hb⟩
    · omega
    · obtain ⟨g, cap, e1⟩ := own_shape ho (by omega)
      cases e1
      exact same_c g 0 d b o c n x w (by omega) (fun k hk => own_bytes ho k _ (cellsOf_at x n k hk)) hb
/-- zzIsJoin of what AppendText gives, what came in and the text. -/
theorem join_u (g cg : Nat) (p : Option Addr) (n c gt ct u : Nat) (x : Nat → Int) (w : World) (hn : n ≤ 65536) (hd : nDigits u ≤ 19) (ho : w.ownsRow 0 5 1 (.slice (some ⟨g, 0, none⟩) (n + nDigits u) cg) (n + nDigits u) (cellsOf x n ++ Lib.byteCells (decDigits u))) (h : PreAt w p n x)
    (ht : Bytes w gt 0 (nDigits u) (Cal.dx u)) : Calls Tryf.prog 15 #[.slice (some ⟨g, 0, none⟩) (n + nDigits u) cg, .slice p n c, .slice (some ⟨gt, 0, none⟩) (nDigits u) ct] w (Yes w) := by
  have d2 : ∀ k, k < nDigits u → w.cell? ⟨g, 0 + (n + k), none⟩ = some (.int .u8 (Cal.dx u k)) := fun k hk => own_bytes ho (n + k) _ (by rw [List.getElem?_append_right (by rw [cellsOf_len]; omega), cellsOf_len, show n + k - n = k by omega]; exact digit_at u k hk)
  have d1 : Bytes w g 0 n x := fun k hk => own_bytes ho k _ (by rw [List.getElem?_append_left (by rw [cellsOf_len]; exact hk)]; exact cellsOf_at x n k hk)
  by_cases h0 : n = 0
  · subst h0
    have := join_zero p c g 0 cg gt 0 ct (nDigits u) (Cal.dx u) w hd (fun k hk => by have := d2 k hk; rwa [Nat.zero_add k] at this) ht
    rw [Nat.zero_add]
    exact this
  · rcases h with h | ⟨b, o, rfl, hlt, hb⟩
    · omega
    · exact join_c b o c g 0 cg gt 0 ct n (nDigits u) x (Cal.dx u) w hn hd hb d1 d2 ht

theorem law3_great (ms c nn : Int) (p : Option Addr) (n cap : Nat) (w : World) (hm : n ≤ maxLen) (h : 65536 < n) : Calls Tryf.prog 3 #[.int .i64 ms, .int .i64 c, .int .i64 nn, .slice p n cap] w (Law4Out w) := by
  have hm' : maxLen = 9223372036854775807 := rfl
  go_enter Tryf.func3, Tryf.ntmps3
  go_wp2_with fail
  refine (bytes7_any ms c nn p n cap w hm).mono ?_
  rintro e w ⟨⟨b, rfl⟩, rfl⟩
  cases b
  · go_wp2
    go_ret
    exact ⟨rfl, Below.refl _ _⟩
  · go_wp2
    go_ret
    exact ⟨rfl, Below.refl _ _⟩

/-- What stands once the copy is made and the value is laid. -/
structure Ready (w W2 : World) (d : Nat) (q p : Option Addr) (n dd : Nat) (x : Nat → Int) (ms c nn : Int) : Prop where
  below : Below w.heap.size w W2
  tri : Tri W2 d ms c nn
  own : W2.ownsRow 0 5 1 (.slice q n dd) n (cellsOf x n)
  blk : ∀ k, (Value.slice q n dd).ownBlock = some k → w.heap.size ≤ k ∧ k < W2.heap.size
  pre : PreAt w p n x
theorem Ready.later {w W2 w3 : World} {d n dd : Nat} {q p : Option Addr} {x : Nat → Int} {ms c nn : Int} (h : Ready w W2 d q p n dd x ms c nn) (hb : Below W2.heap.size W2 w3) : Ready w w3 d q p n dd x ms c nn :=
  ⟨h.below.trans (hb.mono h.below.size), h.tri.later h.tri.lt hb, h.own.kept (grown_of_below hb none) (by cases (Value.slice q n dd).ownBlock <;> simp), fun k hk => ⟨(h.blk k hk).1, Nat.lt_of_lt_of_le (h.blk k hk).2 hb.size⟩, h.pre⟩

set_option maxHeartbeats 4000000 in
theorem law3_main (F : Interp) (ms c nn : Int) (p : Option Addr) (n cap : Nat) (x : Nat → Int) (a : Addr) (s : ByteArray) (w : World) (hF : F.answers w.tape) (hs : Sent0 w a s) (ht : PowTab w) (b1 : -9223372036854775808 ≤ ms) (b1' : ms ≤ 9223372036854775807)
    (hn : n ≤ 65536) (hp : PreAt w p n x) : Calls Tryf.prog 3 #[.int .i64 ms, .int .i64 c, .int .i64 nn, .slice p n cap] w (Law4Out w) := by
  have HF : Hid (F.answers w.tape) := hF
  have HT : Hid (PowTab w) := ht
  have HB1 : Hid (-9223372036854775808 ≤ ms ∧ ms ≤ 9223372036854775807) := ⟨b1, b1'⟩
  have HP := Lib.hid hp
  have HS := Lib.hid hs
  clear hF ht b1 b1' hp hs
  go_enter Tryf.func3, Tryf.ntmps3
  go_wp2_with fail
  refine (bytes7_any ms c nn p n cap w (by unfold maxLen; omega)).mono ?_
  rintro e w ⟨⟨b, rfl⟩, rfl⟩
  cases b
  · go_wp2
    go_ret
    exact ⟨rfl, Below.refl _ _⟩
  go_wp2_with fail
  refine (copy_c p n cap x w hn HP.out).mono ?_
  rintro e w1 ⟨q, dd, rfl, ho, hblk, hb1⟩
  have HY : Hid (Ready w (w1.alloc (.cells #[.int .i64 ms, .int .i64 c, .int .i64 nn] 26)) w1.heap.size q p n dd x ms c nn) :=
    ⟨hb1.alloc hb1.size _, Tri.new w1 ms c nn 26, ho.alloc _, fun k hk => ⟨(hblk k hk).1, by have := (hblk k hk).2; simp; omega⟩, HP.out⟩
  clear ho hblk hb1
  go_wp2_with fail
  generalize w1.alloc (.cells #[.int .i64 ms, .int .i64 c, .int .i64 nn] 26) = W2 at HY ⊢
  generalize w1.heap.size = d at HY ⊢
  have T2 : Hid (PowTab W2) := HT.out.later HY.out.below
  have F2 : Hid (F.answers W2.tape) := by rw [show W2.tape = w.tape from HY.out.below.tape]; exact HF.out
  have S2 := Lib.hid (HS.out.later HY.out.below)
  by_cases g1 : Held ms c nn
  · have H1 : Hid (Held ms c nn) := g1
    clear g1
    obtain ⟨u, HU⟩ : ∃ v, Hid ((form64 ms c nn).toNat = v) := ⟨_, rfl⟩
    refine (marshal_yes ms c nn u W2 T2.out H1.out HU).mono ?_
    rintro e w3 ⟨gt, ct, rfl, ha1, ha2, ha3, ha4, G3⟩
    have Y3 : Hid (Bytes w3 gt 0 (nDigits u) (Cal.dx u)) := ha4
    have R3 := Lib.hid (HY.out.later G3)
    have NE : Hid (∀ k, (Value.slice q n dd).ownBlock = some k → k < gt) := fun k hk => Nat.lt_of_lt_of_le (HY.out.blk k hk).2 ha1
    have T3 : Hid (PowTab w3) := T2.out.later G3
    have HN1 : Hid (1 ≤ nDigits u ∧ nDigits u ≤ 19) := ⟨Lib.nDigits_pos u, Cal.nDigits_le19 u (by have := form64_bd _ _ _ H1.out; have := HU.out; omega)⟩
    have hn1 := HN1.out
    obtain ⟨nd, HD⟩ : ∃ v, Hid (nDigits u = v) := ⟨_, rfl⟩
    rw [HD.out] at ha3 hn1 ⊢
    have k0 := R3.out.tri.c0
    have k1 := R3.out.tri.c1
    have k2 := R3.out.tri.c2
    clear ha4 HY T2
    go_wp2_with fail
    refine (app_own ms c nn u n q dd (cellsOf x n) w3 T3.out H1.out HU R3.out.own hn).mono ?_
    rintro e w4 ⟨g, cg, rfl, ho4, hg4⟩
    have B4 : Hid (Below w.heap.size w w4) := R3.out.below.grown hg4 R3.out.below.size (fun k hk => (R3.out.blk k hk).1)
    have Y4 : Hid (Bytes w4 gt 0 (nDigits u) (Cal.dx u)) := fun k hk => by
      rw [hg4.cell_far ⟨gt, 0 + k, none⟩ ha2 (fun e1 => Nat.lt_irrefl gt (NE.out gt e1.symm))]
      exact Y3.out k hk
    have P4 := Lib.hid (HP.out.later B4.out)
    have O4 := Lib.hid ho4
    have HJ := Lib.hid (join_u g cg p n cap gt ct u x w4 hn HN1.out.2 O4.out P4.out Y4.out)
    clear ho4 hg4 O4 P4 Y3 R3 NE T3
    rw [HD.out] at HJ Y4 ⊢
    obtain ⟨f, HFm⟩ : ∃ v, Hid (form64 ms c nn = v) := ⟨_, rfl⟩
    have Q1 : Hid (Cal.decN (Cal.dx u) 0 nd 0 = some f) := by
      have h := Cal.spells u
      have := form64_bd _ _ _ H1.out
      rw [HD.out] at h
      rw [show (u : Int) = f by have := HU.out; have := HFm.out; omega] at h
      exact h
    have Q2 : Hid (1 < nd → Cal.dx u 0 ≠ 48) := by rw [← HD.out]; exact Cal.no_lead u
    have Q3 : Hid (f ≤ 9223372036854775807) := by rw [← HFm.out]; exact (form64_bd _ _ _ H1.out).2
    obtain ⟨tot, HTot⟩ : ∃ v, Hid (n + nd = v) := ⟨_, rfl⟩
    rw [HTot.out] at HJ ⊢
    go_wp2_with fail
    refine (held_yes ms c nn _ H1.out).mono ?_
    rintro e w4 ⟨rfl, rfl⟩
    go_wp2_with fail
    refine (dec_c gt 0 nd ct (Cal.dx u) f _ hn1.1 hn1.2 Y4.out Q1 Q3.out Q2).mono ?_
    rintro e w4 ⟨rfl, rfl⟩
    go_wp2_with fail
    refine (decodes_c f ms c nn _ H1.out HFm).mono ?_
    rintro e w4 ⟨rfl, rfl⟩
    go_wp2_with fail
    refine HJ.out.mono ?_
    rintro e w5 ⟨rfl, m, rfl⟩
    go_wp2
    go_ret
    exact ⟨rfl, below_drewN' B4.out⟩
  · have H1 : Hid (¬ Held ms c nn) := g1
    clear g1
    refine (marshal_no F a s ms c nn W2 F2.out S2.out HB1.out.1 HB1.out.2 H1.out).mono ?_
    rintro e w3 ⟨⟨q3, rfl⟩, G3⟩
    have R3 := Lib.hid (HY.out.later G3)
    have F3 : Hid (F.answers w3.tape) := by rw [show w3.tape = w.tape from R3.out.below.tape]; exact HF.out
    have S3 := Lib.hid (HS.out.later R3.out.below)
    have k0 := R3.out.tri.c0
    have k1 := R3.out.tri.c1
    have k2 := R3.out.tri.c2
    clear HY T2
    go_wp2_with fail
    refine (app_no F a s ms c nn q n dd w3 F3.out S3.out HB1.out.1 HB1.out.2 H1.out).mono ?_
    rintro e w4 ⟨⟨q4, rfl⟩, G4⟩
    have R4 := Lib.hid (R3.out.later G4)
    have P4 := Lib.hid (HP.out.later R4.out.below)
    clear R3 F3 S3
    go_wp2_with fail
    refine (held_no ms c nn _ H1.out).mono ?_
    rintro e w4 ⟨rfl, rfl⟩
    go_wp2_with fail
    refine (same_u q p n dd cap x w4 hn R4.out.own P4.out).mono ?_
    rintro e w5 ⟨rfl, m, rfl⟩
    go_wp2
    go_ret
    exact ⟨rfl, below_drewN' R4.out.below⟩
end Go.Proofs.Qxb6613619aFmt
