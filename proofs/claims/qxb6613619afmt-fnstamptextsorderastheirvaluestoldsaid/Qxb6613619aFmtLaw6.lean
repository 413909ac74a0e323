/-
  THE WALK OF THE LAW FnStampUnmarshalReplacesOrKeepsWhateverItHeld.
-/
import Derived.Test.Qxb6613619aFmtRead3
namespace Go.Proofs.Qxb6613619aFmt
open Go.RowKit Go.Extern.Stop Go.Stop Go.Extern

theorem zzB6_yes (ms ct nd : Int) (p : Option Addr) (len cap : Nat) (w : World) (h : len ≤ 1048576) : Calls Tryf.prog 23 #[.int .i64 ms, .int .i64 ct, .int .i64 nd, .slice p len cap] w fun e w' => e = .returned (.bool true) ∧ w' = w := by
  go_enter Tryf.func23, Tryf.ntmps23
  go_wp2
  go_ret
  exact ⟨rfl, rfl⟩
theorem zzB6_no (ms ct nd : Int) (p : Option Addr) (len cap : Nat) (w : World) (h : 1048576 < len) : Calls Tryf.prog 23 #[.int .i64 ms, .int .i64 ct, .int .i64 nd, .slice p len cap] w fun e w' => e = .returned (.bool false) ∧ w' = w := by
  go_enter Tryf.func23, Tryf.ntmps23
  go_wp2
  go_ret
  exact ⟨rfl, rfl⟩

def LawOut (w : World) (e : Ending) (w' : World) : Prop := e = .returned (.bool true) ∧ Below w.heap.size w w'

theorem law6_great (ms ct nd : Int) (p : Option Addr) (len cap : Nat) (w : World) (hm : len ≤ maxLen) (h : 65536 < len) : Calls Tryf.prog 6 #[.int .i64 ms, .int .i64 ct, .int .i64 nd, .slice p len cap] w (LawOut w) := by
  unfold maxLen at hm
  by_cases h2 : 1048576 < len
  · go_enter Tryf.func6, Tryf.ntmps6
    go_wp2_with (go_at_call 23; refine (zzB6_no _ _ _ _ _ _ _ h2).mono ?_; rintro e w' ⟨rfl, rfl⟩)
    go_ret
    exact ⟨rfl, Below.refl _ _⟩
  · have h3 : len ≤ 1048576 := by omega
    go_enter Tryf.func6, Tryf.ntmps6
    go_wp2_with (go_at_call 23; refine (zzB6_yes _ _ _ _ _ _ _ h3).mono ?_; rintro e w' ⟨rfl, rfl⟩)
    go_ret
    exact ⟨rfl, Below.refl _ _⟩

theorem StampAt.new (w : World) (u v r : Int) (t : TypeId) : StampAt (w.alloc (.cells #[.int .i64 u, .int .i64 v, .int .i64 r] t)) w.heap.size u v r := by
  constructor <;> (first | go_simp | simp)

theorem StampAt.other {w w' : World} {c d : Nat} {u v r : Int} (h : StampAt w d u v r) (ho : OnlyAt c w w') (hn : d ≠ c) : StampAt w' d u v r := by
  have hb := ho.block d h.lt hn
  refine ⟨Nat.lt_of_lt_of_le h.lt ho.size, ?_, ?_, ?_, ?_, ?_, ?_⟩
  · rw [ho.cell (p := ⟨d, 0, none⟩) h.lt hn]; exact h.c0
  · rw [ho.cell (p := ⟨d, 1, none⟩) h.lt hn]; exact h.c1
  · rw [ho.cell (p := ⟨d, 2, none⟩) h.lt hn]; exact h.c2
  · simp only [World.frozen?, hb]; exact h.f0
  · simp only [World.frozen?, hb]; exact h.f1
  · simp only [World.frozen?, hb]; exact h.f2

set_option maxRecDepth 100000 in
set_option maxHeartbeats 1000000 in
theorem law6_main (F : Interp) (ms ct nd : Int) (p : Option Addr) (len cap : Nat) (x : Nat → Int) (a : Addr) (s : ByteArray) (w : World) (hF : F.answers w.tape) (ht : TextAt w p len cap x) (hs : SentAt w 1 a s) :
    Calls Tryf.prog 6 #[.int .i64 ms, .int .i64 ct, .int .i64 nd, .slice p len cap] w (LawOut w) := by
  have hlen := ht.bound
  have HF : Hid (F.answers w.tape) := hF
  clear hF
  have B1 : Below w.heap.size w ((w.alloc (.cells #[.int .i64 ms, .int .i64 ct, .int .i64 nd] 41)).alloc (.cells #[.int .i64 ms, .int .i64 ct, .int .i64 nd] 41)) := by go_grown
  have S1 : StampAt ((w.alloc (.cells #[.int .i64 ms, .int .i64 ct, .int .i64 nd] 41)).alloc (.cells #[.int .i64 ms, .int .i64 ct, .int .i64 nd] 41)) (w.heap.size + 1) ms ct nd := by simpa using StampAt.new (w.alloc (.cells #[.int .i64 ms, .int .i64 ct, .int .i64 nd] 41)) ms ct nd 41
  have O1 : StampAt ((w.alloc (.cells #[.int .i64 ms, .int .i64 ct, .int .i64 nd] 41)).alloc (.cells #[.int .i64 ms, .int .i64 ct, .int .i64 nd] 41)) w.heap.size ms ct nd := (StampAt.new w ms ct nd 41).later ((Below.refl _ _).alloc (Nat.le_refl _) _)
  go_enter Tryf.func6, Tryf.ntmps6
  go_wp2_with fail
  refine (zzB6_yes _ _ _ _ _ _ _ (by omega)).mono ?_
  rintro e w' ⟨rfl, rfl⟩
  go_wp2_with fail
  have N1 : Hid (w'.heap.size ≠ w'.heap.size + 1) := by show _ ≠ _; omega
  generalize (w'.alloc (.cells #[.int .i64 ms, .int .i64 ct, .int .i64 nd] 41)).alloc (.cells #[.int .i64 ms, .int .i64 ct, .int .i64 nd] 41) = W1 at B1 S1 O1 ⊢
  generalize hc : w'.heap.size + 1 = c at S1 N1 ⊢
  generalize hd : w'.heap.size = d at O1 N1 B1 ⊢
  have HCD : Hid (d ≤ c) := by show _ ≤ _; omega
  have HDS : Hid (w'.heap.size = d) := hd
  clear hc hd
  have T1 := ht.later (HDS.out ▸ B1)
  have E1 := hs.later (HDS.out ▸ B1)
  have F1 : Hid (F.answers W1.tape) := by rw [show W1.tape = w'.tape from B1.tape]; exact HF.out
  refine (unm_c F p len cap x a s c ms ct nd W1 F1.out T1 E1 S1).mono ?_
  rintro e w1 (⟨hb, rfl, S2, O2⟩ | ⟨hb, ⟨q, rfl⟩, S2, O2⟩)
  · have HB : Hid ((decide (len = 36) && Cal.stampB x) = true) := hb
    clear hb
    have Q2 := O1.other O2 N1.out
    have BB2 : Below d w' w1 := B1.trans (O2.below HCD.out (by have := O1.lt; omega))
    have T2 := ht.later (HDS.out ▸ BB2)
    have E2 := hs.later (HDS.out ▸ BB2)
    have k0 := S2.c0
    have k1 := S2.c1
    have k2 := S2.c2
    obtain ⟨MS, HMS⟩ : ∃ v, Hid (Cal.msOf x = v) := ⟨_, rfl⟩
    obtain ⟨C, HCC⟩ : ∃ v, Hid (Cal.hexV x 25 4 = v) := ⟨_, rfl⟩
    obtain ⟨N, HNN⟩ : ∃ v, Hid (Cal.hexV x 30 6 = v) := ⟨_, rfl⟩
    rw [HMS.out] at k0 S2; rw [HCC.out] at k1 S2; rw [HNN.out] at k2 S2
    go_wp2_with fail
    have BA := (Below.refl w1.heap.size w1).alloc (Nat.le_refl _) (.cells #[.int .i64 MS, .int .i64 C, .int .i64 N] 41)
    have A3 := StampAt.new w1 MS C N 41
    have S3 := S2.later BA
    have Q3 := Q2.later BA
    have HGC : Hid (w1.heap.size ≠ c) := by have := S2.lt; show _ ≠ _; omega
    have BB3 : Below d w' (w1.alloc (.cells #[.int .i64 MS, .int .i64 C, .int .i64 N] 41)) := BB2.trans (BA.mono (by have := Q2.lt; omega))
    generalize w1.alloc (.cells #[.int .i64 MS, .int .i64 C, .int .i64 N] 41) = W3 at BA A3 S3 Q3 BB3 ⊢
    generalize w1.heap.size = g at A3 HGC ⊢
    have T3 := ht.later (HDS.out ▸ BB3)
    have E3 := hs.later (HDS.out ▸ BB3)
    have F3 : Hid (F.answers W3.tape) := by rw [show W3.tape = w'.tape from BB3.tape]; exact HF.out
    clear k0 k1 k2
    refine (unm_c F p len cap x a s c _ _ _ W3 F3.out T3 E3 S3).mono ?_
    rintro e w2 (⟨_, rfl, S4, O4⟩ | ⟨hb, _⟩)
    · rw [HMS.out, HCC.out, HNN.out] at S4
      have A4 := A3.other O4 HGC.out
      have BB4 : Below d w' w2 := BB3.trans (O4.below HCD.out (by have := Q3.lt; omega))
      have T4 := ht.later (HDS.out ▸ BB4)
      go_wp2_with fail
      refine (rd_c p len cap x w2 T4).mono ?_
      rintro e w3 (⟨_, rfl, rfl⟩ | ⟨hb, _⟩)
      · rw [HMS.out, HCC.out, HNN.out]
        obtain ⟨lt, c0, c1, c2, _, _, _⟩ := S4
        obtain ⟨lt', g0, g1, g2, _, _, _⟩ := A4
        go_wp2
        go_ret
        exact ⟨rfl, HDS.out ▸ BB4.alloc (by have := Q3.lt; have := O4.size; omega) _⟩
      · rw [HB.out] at hb; cases hb
    · rw [HB.out] at hb; cases hb
  · have HB : Hid ((decide (len = 36) && Cal.stampB x) = false) := hb
    clear hb
    have Q2 := O1.other O2 N1.out
    have BB2 : Below d w' w1 := B1.trans (O2.below HCD.out (by have := O1.lt; omega))
    have T2 := ht.later (HDS.out ▸ BB2)
    have E2 := hs.later (HDS.out ▸ BB2)
    have k0 := S2.c0
    have k1 := S2.c1
    have k2 := S2.c2
    go_wp2_with fail
    have BA := (Below.refl w1.heap.size w1).alloc (Nat.le_refl _) (.cells #[.int .i64 ms, .int .i64 ct, .int .i64 nd] 41)
    have A3 := StampAt.new w1 ms ct nd 41
    have S3 := S2.later BA
    have Q3 := Q2.later BA
    have HGC : Hid (w1.heap.size ≠ c) := by have := S2.lt; show _ ≠ _; omega
    have BB3 : Below d w' (w1.alloc (.cells #[.int .i64 ms, .int .i64 ct, .int .i64 nd] 41)) := BB2.trans (BA.mono (by have := Q2.lt; omega))
    generalize w1.alloc (.cells #[.int .i64 ms, .int .i64 ct, .int .i64 nd] 41) = W3 at BA A3 S3 Q3 BB3 ⊢
    generalize w1.heap.size = g at A3 HGC ⊢
    have T3 := ht.later (HDS.out ▸ BB3)
    have E3 := hs.later (HDS.out ▸ BB3)
    have F3 : Hid (F.answers W3.tape) := by rw [show W3.tape = w'.tape from BB3.tape]; exact HF.out
    clear k0 k1 k2
    refine (unm_c F p len cap x a s c _ _ _ W3 F3.out T3 E3 S3).mono ?_
    rintro e w2 (⟨hb, _⟩ | ⟨_, ⟨q', rfl⟩, S4, O4⟩)
    · rw [HB.out] at hb; cases hb
    · have A4 := A3.other O4 HGC.out
      have Q4 := Q3.other O4 N1.out
      have BB4 : Below d w' w2 := BB3.trans (O4.below HCD.out (by have := Q3.lt; omega))
      have T4 := ht.later (HDS.out ▸ BB4)
      go_wp2_with fail
      refine (rd_c p len cap x w2 T4).mono ?_
      rintro e w3 (⟨hb, _⟩ | ⟨_, rfl, rfl⟩)
      · rw [HB.out] at hb; cases hb
      · obtain ⟨lt, c0, c1, c2, _, _, _⟩ := S4
        obtain ⟨lt', g0, g1, g2, _, _, _⟩ := A4
        obtain ⟨lt'', d0, d1, d2, _, _, _⟩ := Q4
        go_wp2
        go_ret
        exact ⟨rfl, HDS.out ▸ BB4⟩
end Go.Proofs.Qxb6613619aFmt
