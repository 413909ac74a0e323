/-
  THE WALK OF THE LAW FnInt64TextsOrderAsTheirValues.
-/
import Derived.Test.Qxb6613619aFmtDec64
namespace Go.Proofs.Qxb6613619aFmt
open Go.RowKit Go.Extern.Stop Go.Stop Go.Extern
open Go.Lib (nDigits)

/-- A struct of three integers in memory. -/
structure Tri (w : World) (d : Nat) (u v r : Int) : Prop where
  lt : d < w.heap.size
  c0 : w.cell? ⟨d, 0, none⟩ = some (.int .i64 u)
  c1 : w.cell? ⟨d, 1, none⟩ = some (.int .i64 v)
  c2 : w.cell? ⟨d, 2, none⟩ = some (.int .i64 r)
theorem Tri.later {w w' : World} {B d : Nat} {u v r : Int} (h : Tri w d u v r) (hd : d < B) (hb : Below B w w') : Tri w' d u v r :=
  ⟨Nat.lt_of_lt_of_le h.lt hb.size, by rw [hb.cell (p := ⟨d, 0, none⟩) hd]; exact h.c0, by rw [hb.cell (p := ⟨d, 1, none⟩) hd]; exact h.c1, by rw [hb.cell (p := ⟨d, 2, none⟩) hd]; exact h.c2⟩
theorem Tri.new (w : World) (u v r : Int) (t : TypeId) : Tri (w.alloc (.cells #[.int .i64 u, .int .i64 v, .int .i64 r] t)) w.heap.size u v r := by
  constructor <;> (first | go_simp | simp)

def Law4Out (w : World) (e : Ending) (w' : World) : Prop := e = .returned (.bool true) ∧ Below w.heap.size w w'
theorem below_drewN' {B : Nat} {w w1 : World} {n : Nat} (h : Below B w w1) : Below B w (w1.drewN n) := ⟨h.os, h.tape, h.output, h.size, h.block⟩

/-- The order of the two texts is the order of the two values. -/
theorem texts_order (ms1 c1 n1 ms2 c2 n2 : Int) (u1 u2 : Nat) (h1 : Held ms1 c1 n1) (h2 : Held ms2 c2 n2) (e1 : (form64 ms1 c1 n1).toNat = u1) (e2 : (form64 ms2 c2 n2).toNat = u2) :
    Cal.ch (Cal.sgn (nDigits u1) (nDigits u2)) (if nDigits u1 = nDigits u2 then Cal.lex (Cal.dx u1) (Cal.dx u2) 0 (nDigits u1) else 0) = Cal.ch (Cal.sgn ms1 ms2) (Cal.ch (Cal.sgn c1 c2) (Cal.sgn n1 n2)) := by
  rw [Cal.numerals_order u1 u2]
  have b1 := form64_bd ms1 c1 n1 h1
  have b2 := form64_bd ms2 c2 n2 h2
  have f1 : (u1 : Int) = form64 ms1 c1 n1 := by omega
  have f2 : (u2 : Int) = form64 ms2 c2 n2 := by omega
  rw [f1, f2]
  unfold form64
  obtain ⟨_, _, h13, h14, h15, h16⟩ := h1
  obtain ⟨_, _, h23, h24, h25, h26⟩ := h2
  rw [Cal.fields_order _ _ _ _ _ _ h13 h14 h15 h16 h23 h24 h25 h26, Cal.sgn_sub]

set_option maxRecDepth 100000 in
set_option maxHeartbeats 2000000 in
theorem law4_main (F : Interp) (ms1 c1 n1 ms2 c2 n2 : Int) (a : Addr) (s : ByteArray) (w : World) (hF : F.answers w.tape) (hs : Sent0 w a s) (ht : PowTab w)
    (b1 : -9223372036854775808 ≤ ms1) (b1' : ms1 ≤ 9223372036854775807) (b2 : -9223372036854775808 ≤ ms2) (b2' : ms2 ≤ 9223372036854775807) :
    Calls Tryf.prog 4 #[.int .i64 ms1, .int .i64 c1, .int .i64 n1, .int .i64 ms2, .int .i64 c2, .int .i64 n2] w (Law4Out w) := by
  have HF : Hid (F.answers w.tape) := hF
  clear hF
  have HT : Hid (PowTab w) := ht
  clear ht
  have HB1 : Hid (-9223372036854775808 ≤ ms1 ∧ ms1 ≤ 9223372036854775807) := ⟨b1, b1'⟩
  have HB2 : Hid (-9223372036854775808 ≤ ms2 ∧ ms2 ≤ 9223372036854775807) := ⟨b2, b2'⟩
  clear b1 b1' b2 b2'
  have B1 : Below w.heap.size w ((w.alloc (.cells #[.int .i64 ms1, .int .i64 c1, .int .i64 n1] 26)).alloc (.cells #[.int .i64 ms2, .int .i64 c2, .int .i64 n2] 26)) := by go_grown
  have R1 : Tri ((w.alloc (.cells #[.int .i64 ms1, .int .i64 c1, .int .i64 n1] 26)).alloc (.cells #[.int .i64 ms2, .int .i64 c2, .int .i64 n2] 26)) (w.heap.size + 1) ms2 c2 n2 := by simpa using Tri.new (w.alloc (.cells #[.int .i64 ms1, .int .i64 c1, .int .i64 n1] 26)) ms2 c2 n2 26
  go_enter Tryf.func4, Tryf.ntmps4
  go_wp2_with fail
  generalize (w.alloc (.cells #[.int .i64 ms1, .int .i64 c1, .int .i64 n1] 26)).alloc (.cells #[.int .i64 ms2, .int .i64 c2, .int .i64 n2] 26) = W1 at B1 R1 ⊢
  generalize w.heap.size + 1 = d at R1 ⊢
  have E1 := hs.later B1
  have T1 : Hid (PowTab W1) := HT.out.later B1
  have F1 : Hid (F.answers W1.tape) := by rw [show W1.tape = w.tape from B1.tape]; exact HF.out
  by_cases g1 : Held ms1 c1 n1
  · have H1 : Hid (Held ms1 c1 n1) := g1
    clear g1
    obtain ⟨u1, HU1⟩ : ∃ v, Hid ((form64 ms1 c1 n1).toNat = v) := ⟨_, rfl⟩
    refine (marshal_yes ms1 c1 n1 u1 W1 T1.out H1.out HU1).mono ?_
    rintro e w1 ⟨g1, cap1, rfl, ha1, ha2, ha3, ha4, G1⟩
    have Y1 : Hid (Bytes w1 g1 0 (nDigits u1) (Cal.dx u1)) := ha4
    clear ha4
    have HN1 : Hid (1 ≤ nDigits u1 ∧ nDigits u1 ≤ 19) := ⟨Lib.nDigits_pos u1, Cal.nDigits_le19 u1 (by have := form64_bd _ _ _ H1.out; have := HU1.out; omega)⟩
    obtain ⟨nd1, HD1⟩ : ∃ v, Hid (nDigits u1 = v) := ⟨_, rfl⟩
    rw [HD1.out] at ha3 Y1 HN1 ⊢
    have hn1 := HN1.out
    have R2 := R1.later R1.lt G1
    have k0 := R2.c0
    have k1 := R2.c1
    have k2 := R2.c2
    have BB2 : Below w.heap.size w w1 := B1.trans (G1.mono B1.size)
    have E2 := hs.later BB2
    have T2 : Hid (PowTab w1) := HT.out.later BB2
    have F2 : Hid (F.answers w1.tape) := by rw [show w1.tape = w.tape from BB2.tape]; exact HF.out
    go_wp2_with fail
    by_cases g2 : Held ms2 c2 n2
    · have H2 : Hid (Held ms2 c2 n2) := g2
      clear g2
      obtain ⟨u2, HU2⟩ : ∃ v, Hid ((form64 ms2 c2 n2).toNat = v) := ⟨_, rfl⟩
      refine (marshal_yes ms2 c2 n2 u2 w1 T2.out H2.out HU2).mono ?_
      rintro e w2 ⟨g2, cap2, rfl, hd1, hd2, hd3, hd4, G2⟩
      have Y2 : Hid (Bytes w2 g2 0 (nDigits u2) (Cal.dx u2)) := hd4
      clear hd4
      have HN2 : Hid (1 ≤ nDigits u2 ∧ nDigits u2 ≤ 19) := ⟨Lib.nDigits_pos u2, Cal.nDigits_le19 u2 (by have := form64_bd _ _ _ H2.out; have := HU2.out; omega)⟩
      obtain ⟨nd2, HD2⟩ : ∃ v, Hid (nDigits u2 = v) := ⟨_, rfl⟩
      rw [HD2.out] at hd3 Y2 HN2 ⊢
      have hn2 := HN2.out
      have BB3 : Below w.heap.size w w2 := BB2.trans (G2.mono BB2.size)
      go_wp2_with fail
      refine (held_yes ms1 c1 n1 _ H1.out).mono ?_
      rintro e w3 ⟨rfl, rfl⟩
      go_wp2_with fail
      refine (held_yes ms2 c2 n2 _ H2.out).mono ?_
      rintro e w4 ⟨rfl, rfl⟩
      have X1 : Hid (∀ k, k < nd1 → w4.cell? ⟨g1, 0 + k, none⟩ = some (.int .u8 (Cal.dx u1 k))) := Bytes.later Y1.out ha2 G2
      obtain ⟨f1, HF1⟩ : ∃ v, Hid (form64 ms1 c1 n1 = v) := ⟨_, rfl⟩
      obtain ⟨f2, HF2⟩ : ∃ v, Hid (form64 ms2 c2 n2 = v) := ⟨_, rfl⟩
      have S1 : Hid (Cal.decN (Cal.dx u1) 0 nd1 0 = some f1) := by
        have h := Cal.spells u1
        have := form64_bd _ _ _ H1.out
        rw [HD1.out] at h
        rw [show (u1 : Int) = f1 by have := HU1.out; have := HF1.out; omega] at h
        exact h
      have S2 : Hid (Cal.decN (Cal.dx u2) 0 nd2 0 = some f2) := by
        have h := Cal.spells u2
        have := form64_bd _ _ _ H2.out
        rw [HD2.out] at h
        rw [show (u2 : Int) = f2 by have := HU2.out; have := HF2.out; omega] at h
        exact h
      have L1 : Hid (1 < nd1 → Cal.dx u1 0 ≠ 48) := by rw [← HD1.out]; exact Cal.no_lead u1
      have L2 : Hid (1 < nd2 → Cal.dx u2 0 ≠ 48) := by rw [← HD2.out]; exact Cal.no_lead u2
      have LE1 : Hid (f1 ≤ 9223372036854775807) := by rw [← HF1.out]; exact (form64_bd _ _ _ H1.out).2
      have LE2 : Hid (f2 ≤ 9223372036854775807) := by rw [← HF2.out]; exact (form64_bd _ _ _ H2.out).2
      go_wp2_with fail
      refine (dec_c g1 0 nd1 cap1 (Cal.dx u1) f1 _ hn1.1 hn1.2 X1 S1 LE1.out L1).mono ?_
      rintro e w5 ⟨rfl, rfl⟩
      go_wp2_with fail
      refine (dec_c g2 0 nd2 cap2 (Cal.dx u2) f2 _ hn2.1 hn2.2 Y2.out S2 LE2.out L2).mono ?_
      rintro e w6 ⟨rfl, rfl⟩
      go_wp2_with fail
      refine (decodes_c f1 ms1 c1 n1 _ H1.out HF1).mono ?_
      rintro e w7 ⟨rfl, rfl⟩
      go_wp2_with fail
      refine (decodes_c f2 ms2 c2 n2 _ H2.out HF2).mono ?_
      rintro e w8 ⟨rfl, rfl⟩
      obtain ⟨r, HR⟩ : ∃ v, Hid (Cal.ch (Cal.sgn ms1 ms2) (Cal.ch (Cal.sgn c1 c2) (Cal.sgn n1 n2)) = v) := ⟨_, rfl⟩
      have HO : Hid (Cal.ch (Cal.sgn nd1 nd2) (if nd1 = nd2 then Cal.lex (Cal.dx u1) (Cal.dx u2) 0 nd1 else 0) = r) := by
        show _ = _
        rw [← HR.out, ← texts_order ms1 c1 n1 ms2 c2 n2 u1 u2 H1.out H2.out HU1.out HU2.out, HD1.out, HD2.out]
      go_wp2_with fail
      have hcd := cmpDec_c g1 0 cap1 g2 0 cap2 nd1 nd2 (Cal.dx u1) (Cal.dx u2) w8 hn1.2 hn2.2 X1 Y2.out
      rw [HO.out] at hcd
      refine hcd.mono ?_
      clear hcd
      rintro e w9 ⟨rfl, m, rfl⟩
      have hcv := cmpv_c ms1 c1 n1 ms2 c2 n2 (w8.drewN m)
      rw [HR.out] at hcv
      have HCV : Hid (Calls Tryf.prog 17 #[.int .i64 ms1, .int .i64 c1, .int .i64 n1, .int .i64 ms2, .int .i64 c2, .int .i64 n2] (w8.drewN m) fun e w' => e = .returned (.int .i64 r) ∧ w' = w8.drewN m) := hcv
      clear hcv
      go_wp2_with fail
      refine HCV.out.mono ?_
      rintro e w10 ⟨rfl, rfl⟩
      go_wp2
      go_ret
      exact ⟨rfl, below_drewN' BB3⟩
    · have H2 : Hid (¬ Held ms2 c2 n2) := g2
      clear g2
      refine (marshal_no F a s ms2 c2 n2 w1 F2.out E2 HB2.out.1 HB2.out.2 H2.out).mono ?_
      rintro e w2 ⟨⟨q2, rfl⟩, G2⟩
      have BB3 : Below w.heap.size w w2 := BB2.trans (G2.mono BB2.size)
      go_wp2_with fail
      refine (held_yes ms1 c1 n1 _ H1.out).mono ?_
      rintro e w3 ⟨rfl, rfl⟩
      go_wp2_with fail
      refine (held_no ms2 c2 n2 _ H2.out).mono ?_
      rintro e w4 ⟨rfl, rfl⟩
      go_wp2
      go_ret
      exact ⟨rfl, BB3⟩
  · have H1 : Hid (¬ Held ms1 c1 n1) := g1
    clear g1
    refine (marshal_no F a s ms1 c1 n1 W1 F1.out E1 HB1.out.1 HB1.out.2 H1.out).mono ?_
    rintro e w1 ⟨⟨q1, rfl⟩, G1⟩
    have R2 := R1.later R1.lt G1
    have k0 := R2.c0
    have k1 := R2.c1
    have k2 := R2.c2
    have BB2 : Below w.heap.size w w1 := B1.trans (G1.mono B1.size)
    have E2 := hs.later BB2
    have T2 : Hid (PowTab w1) := HT.out.later BB2
    have F2 : Hid (F.answers w1.tape) := by rw [show w1.tape = w.tape from BB2.tape]; exact HF.out
    go_wp2_with fail
    by_cases g2 : Held ms2 c2 n2
    · have H2 : Hid (Held ms2 c2 n2) := g2
      clear g2
      obtain ⟨u2, HU2⟩ : ∃ v, Hid ((form64 ms2 c2 n2).toNat = v) := ⟨_, rfl⟩
      refine (marshal_yes ms2 c2 n2 u2 w1 T2.out H2.out HU2).mono ?_
      rintro e w2 ⟨g2, cap2, rfl, hd1, hd2, hd3, hd4, G2⟩
      have Y2 : Hid (Bytes w2 g2 0 (nDigits u2) (Cal.dx u2)) := hd4
      clear hd4
      have HN2 : Hid (1 ≤ nDigits u2 ∧ nDigits u2 ≤ 19) := ⟨Lib.nDigits_pos u2, Cal.nDigits_le19 u2 (by have := form64_bd _ _ _ H2.out; have := HU2.out; omega)⟩
      obtain ⟨nd2, HD2⟩ : ∃ v, Hid (nDigits u2 = v) := ⟨_, rfl⟩
      rw [HD2.out] at hd3 Y2 HN2 ⊢
      have hn2 := HN2.out
      have BB3 : Below w.heap.size w w2 := BB2.trans (G2.mono BB2.size)
      go_wp2_with fail
      refine (held_no ms1 c1 n1 _ H1.out).mono ?_
      rintro e w3 ⟨rfl, rfl⟩
      go_wp2_with fail
      refine (held_yes ms2 c2 n2 _ H2.out).mono ?_
      rintro e w4 ⟨rfl, rfl⟩
      go_wp2
      go_ret
      exact ⟨rfl, BB3⟩
    · have H2 : Hid (¬ Held ms2 c2 n2) := g2
      clear g2
      refine (marshal_no F a s ms2 c2 n2 w1 F2.out E2 HB2.out.1 HB2.out.2 H2.out).mono ?_
      rintro e w2 ⟨⟨q2, rfl⟩, G2⟩
      have BB3 : Below w.heap.size w w2 := BB2.trans (G2.mono BB2.size)
      go_wp2_with fail
      refine (held_no ms1 c1 n1 _ H1.out).mono ?_
      rintro e w3 ⟨rfl, rfl⟩
      go_wp2_with fail
      refine (held_no ms2 c2 n2 _ H2.out).mono ?_
      rintro e w4 ⟨rfl, rfl⟩
      go_wp2
      go_ret
      exact ⟨rfl, BB3⟩
end Go.Proofs.Qxb6613619aFmt
