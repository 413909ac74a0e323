/-
  THE WALK OF THE LAW FnStampTextsOrderAsTheirValues.
-/
import Derived.Test.Qxb6613619aFmtLaw6
import Derived.Test.Qxb6613619aFmtCmp
namespace Go.Proofs.Qxb6613619aFmt
open Go.RowKit Go.Extern.Stop Go.Stop Go.Extern Go.BigFrame

theorem zzB18_yes (p1 p2 : Option Addr) (l1 c1 l2 c2 : Nat) (w : World) (h1 : l1 ≤ 65536) (h2 : l2 ≤ 65536) : Calls Tryf.prog 18 #[.slice p1 l1 c1, .slice p2 l2 c2] w fun e w' => e = .returned (.bool true) ∧ w' = w := by
  go_enter Tryf.func18, Tryf.ntmps18
  go_wp2
  go_ret
  exact ⟨rfl, rfl⟩
def SomeBool (w : World) (e : Ending) (w' : World) : Prop := ∃ b : Bool, e = .returned (.bool b) ∧ w' = w
theorem zzB18_any (p1 p2 : Option Addr) (l1 c1 l2 c2 : Nat) (w : World) (h1 : l1 ≤ maxLen) (h2 : l2 ≤ maxLen) : Calls Tryf.prog 18 #[.slice p1 l1 c1, .slice p2 l2 c2] w (SomeBool w) := by
  unfold maxLen at h1 h2
  by_cases g1 : l1 ≤ 1048576
  · by_cases g2 : l2 ≤ 1048576
    · go_enter Tryf.func18, Tryf.ntmps18
      go_wp2
      all_goals (go_ret; exact ⟨_, rfl, rfl⟩)
    · go_enter Tryf.func18, Tryf.ntmps18
      go_wp2
      all_goals (go_ret; exact ⟨_, rfl, rfl⟩)
  · go_enter Tryf.func18, Tryf.ntmps18
    go_wp2
    all_goals (go_ret; exact ⟨_, rfl, rfl⟩)

theorem law5_great (p1 p2 : Option Addr) (l1 c1 l2 c2 : Nat) (w : World) (h1 : l1 ≤ maxLen) (h2 : l2 ≤ maxLen) (h : 65536 < l1 ∨ 65536 < l2) : Calls Tryf.prog 5 #[.slice p1 l1 c1, .slice p2 l2 c2] w (LawOut w) := by
  have hz := zzB18_any p1 p2 l1 c1 l2 c2 w h1 h2
  have HZ : Hid (Calls Tryf.prog 18 #[.slice p1 l1 c1, .slice p2 l2 c2] w (SomeBool w)) := hz
  clear hz
  unfold maxLen at h1 h2
  by_cases g : 65536 < l1
  · go_enter Tryf.func5, Tryf.ntmps5
    go_wp2_with fail
    refine HZ.out.mono ?_
    rintro e w' ⟨b, rfl, rfl⟩
    cases b
    all_goals
      go_wp2
      go_ret
      exact ⟨rfl, Below.refl _ _⟩
  · have g' : 65536 < l2 := by omega
    go_enter Tryf.func5, Tryf.ntmps5
    go_wp2_with fail
    refine HZ.out.mono ?_
    rintro e w' ⟨b, rfl, rfl⟩
    cases b
    all_goals
      go_wp2
      go_ret
      exact ⟨rfl, Below.refl _ _⟩

theorem stampIs_yes (u v r : Int) (w : World) : Calls Tryf.prog 21 #[.agg #[.int .i64 u, .int .i64 v, .int .i64 r], .bool true, .int .i64 u, .int .i64 v, .int .i64 r] w fun e w' => e = .returned (.bool true) ∧ Below w.heap.size w w' := by
  go_enter Tryf.func21, Tryf.ntmps21
  go_wp2
  go_ret
  exact ⟨rfl, by go_grown⟩
theorem stampIs_no (u v r : Int) (w : World) : Calls Tryf.prog 21 #[.agg #[.int .i64 0, .int .i64 0, .int .i64 0], .bool false, .int .i64 u, .int .i64 v, .int .i64 r] w fun e w' => e = .returned (.bool true) ∧ Below w.heap.size w w' := by
  go_enter Tryf.func21, Tryf.ntmps21
  go_wp2
  go_ret
  exact ⟨rfl, by go_grown⟩

/-- zzCmpBytes, zzCmpValue inside a region that draws its order; what comes back stands behind a letter. -/
theorem cmp_q (b1 o1 c1 b2 o2 c2 n nq : Nat) (x y : Nat → Int) (v : Int) (w : World) (hn : n ≤ 1048576) (hx : Hid (∀ k, k < n → w.cell? ⟨b1, o1 + k, none⟩ = some (.int .u8 (x k)))) (hy : Hid (∀ k, k < n → w.cell? ⟨b2, o2 + k, none⟩ = some (.int .u8 (y k)))) (hv : Hid (Cal.lex x y 0 n = v)) :
    Calls Tryf.prog 22 #[.slice (some ⟨b1, o1, none⟩) n c1, .slice (some ⟨b2, o2, none⟩) n c2] (w.drewN nq) fun e w'' => e = .returned (.int .i64 v) ∧ ∃ m, w'' = w.drewN m := by
  rw [← hv.out]
  exact Calls.quiet_of (cmp_c b1 o1 c1 b2 o2 c2 n x y (w.drewN nq) hn hx hy)
theorem cmpv_q (a b c a' b' c' v : Int) (w : World) (nq : Nat) (hv : Hid (Cal.ch (Cal.sgn a a') (Cal.ch (Cal.sgn b b') (Cal.sgn c c')) = v)) :
    Calls Tryf.prog 17 #[.int .i64 a, .int .i64 b, .int .i64 c, .int .i64 a', .int .i64 b', .int .i64 c'] (w.drewN nq) fun e w'' => e = .returned (.int .i64 v) ∧ ∃ m, w'' = w.drewN m := by
  rw [← hv.out]
  exact Calls.quiet_of_same (cmpv_c a b c a' b' c' (w.drewN nq))

set_option maxRecDepth 100000 in
set_option maxHeartbeats 1000000 in
theorem law5_main (F : Interp) (p1 p2 : Option Addr) (l1 c1 l2 c2 : Nat) (x y : Nat → Int) (a : Addr) (s : ByteArray) (w : World) (hF : F.answers w.tape) (ht : TextAt w p1 l1 c1 x) (hu : TextAt w p2 l2 c2 y) (hs : SentAt w 1 a s) :
    Calls Tryf.prog 5 #[.slice p1 l1 c1, .slice p2 l2 c2] w (LawOut w) := by
  have hlen := ht.bound
  have hlen2 := hu.bound
  have HF : Hid (F.answers w.tape) := hF
  clear hF
  have B1 : Below w.heap.size w ((w.alloc (.cells #[.int .i64 0, .int .i64 0, .int .i64 0] 41)).alloc (.cells #[.int .i64 0, .int .i64 0, .int .i64 0] 41)) := by go_grown
  have S1 : StampAt ((w.alloc (.cells #[.int .i64 0, .int .i64 0, .int .i64 0] 41)).alloc (.cells #[.int .i64 0, .int .i64 0, .int .i64 0] 41)) w.heap.size 0 0 0 := (StampAt.new w 0 0 0 41).later ((Below.refl _ _).alloc (Nat.le_refl _) _)
  have R1 : StampAt ((w.alloc (.cells #[.int .i64 0, .int .i64 0, .int .i64 0] 41)).alloc (.cells #[.int .i64 0, .int .i64 0, .int .i64 0] 41)) (w.heap.size + 1) 0 0 0 := by simpa using StampAt.new (w.alloc (.cells #[.int .i64 0, .int .i64 0, .int .i64 0] 41)) 0 0 0 41
  go_enter Tryf.func5, Tryf.ntmps5
  go_wp2_with fail
  refine (zzB18_yes _ _ _ _ _ _ _ hlen hlen2).mono ?_
  rintro e w' ⟨rfl, rfl⟩
  go_wp2_with fail
  have N1 : Hid (w'.heap.size ≠ w'.heap.size + 1) := by show _ ≠ _; omega
  generalize (w'.alloc (.cells #[.int .i64 0, .int .i64 0, .int .i64 0] 41)).alloc (.cells #[.int .i64 0, .int .i64 0, .int .i64 0] 41) = W1 at B1 S1 R1 ⊢
  generalize hc : w'.heap.size + 1 = c at R1 N1 ⊢
  generalize hd : w'.heap.size = d at S1 N1 B1 ⊢
  have HCD : Hid (d ≤ c) := by show _ ≤ _; omega
  have HDS : Hid (w'.heap.size = d) := hd
  clear hc hd
  have T1 := ht.later (HDS.out ▸ B1)
  have E1 := hs.later (HDS.out ▸ B1)
  have F1 : Hid (F.answers W1.tape) := by rw [show W1.tape = w'.tape from B1.tape]; exact HF.out
  obtain ⟨MS, HMS⟩ : ∃ v, Hid (Cal.msOf x = v) := ⟨_, rfl⟩
  obtain ⟨C, HCC⟩ : ∃ v, Hid (Cal.hexV x 25 4 = v) := ⟨_, rfl⟩
  obtain ⟨N, HNN⟩ : ∃ v, Hid (Cal.hexV x 30 6 = v) := ⟨_, rfl⟩
  obtain ⟨MS', HMS'⟩ : ∃ v, Hid (Cal.msOf y = v) := ⟨_, rfl⟩
  obtain ⟨C', HCC'⟩ : ∃ v, Hid (Cal.hexV y 25 4 = v) := ⟨_, rfl⟩
  obtain ⟨N', HNN'⟩ : ∃ v, Hid (Cal.hexV y 30 6 = v) := ⟨_, rfl⟩
  refine (unm_c F p1 l1 c1 x a s d 0 0 0 W1 F1.out T1 E1 S1).mono ?_
  rintro e w1 (⟨hb, rfl, S2, O2⟩ | ⟨hb, ⟨q, rfl⟩, S2, O2⟩)
  · have HB : Hid ((decide (l1 = 36) && Cal.stampB x) = true) := hb
    clear hb
    rw [HMS.out, HCC.out, HNN.out] at S2
    have R2 := R1.other O2 (Ne.symm N1.out)
    have BB2 : Below d w' w1 := B1.trans (O2.below (Nat.le_refl _) (by have := S1.lt; omega))
    have T2 := hu.later (HDS.out ▸ BB2)
    have E2 := hs.later (HDS.out ▸ BB2)
    have F2 : Hid (F.answers w1.tape) := by rw [show w1.tape = w'.tape from BB2.tape]; exact HF.out
    go_wp2_with fail
    refine (unm_c F p2 l2 c2 y a s c 0 0 0 w1 F2.out T2 E2 R2).mono ?_
    rintro e w2 (⟨hb, rfl, R3, O3⟩ | ⟨hb, ⟨q', rfl⟩, R3, O3⟩)
    · have HB' : Hid ((decide (l2 = 36) && Cal.stampB y) = true) := hb
      clear hb
      rw [HMS'.out, HCC'.out, HNN'.out] at R3
      have S3 := S2.other O3 N1.out
      have BB3 : Below d w' w2 := BB2.trans (O3.below HCD.out (by have := S2.lt; omega))
      have T3 := ht.later (HDS.out ▸ BB3)
      have U3 := hu.later (HDS.out ▸ BB3)
      go_wp2_with fail
      refine (rd_c p1 l1 c1 x w2 T3).mono ?_
      rintro e w3 hr
      obtain ⟨_, rfl, rfl⟩ : (decide (l1 = 36) && Cal.stampB x) = true ∧ e = .returned (.tuple #[.int .i64 (Cal.msOf x), .int .i64 (Cal.hexV x 25 4), .int .i64 (Cal.hexV x 30 6), .bool true]) ∧ w3 = w2 := by
        rcases hr with h | ⟨h, _⟩
        · exact h
        · rw [HB.out] at h; cases h
      rw [HMS.out, HCC.out, HNN.out]
      go_wp2_with fail
      refine (rd_c p2 l2 c2 y _ U3).mono ?_
      rintro e w4 hr
      obtain ⟨_, rfl, rfl⟩ : (decide (l2 = 36) && Cal.stampB y) = true ∧ e = .returned (.tuple #[.int .i64 (Cal.msOf y), .int .i64 (Cal.hexV y 25 4), .int .i64 (Cal.hexV y 30 6), .bool true]) ∧ w4 = _ := by
        rcases hr with h | ⟨h, _⟩
        · exact h
        · rw [HB'.out] at h; cases h
      rw [HMS'.out, HCC'.out, HNN'.out]
      have k0 := S3.c0
      have k1 := S3.c1
      have k2 := S3.c2
      go_wp2_with fail
      refine (stampIs_yes MS C N _).mono ?_
      rintro e w5 ⟨rfl, G1⟩
      have R5 := R3.later G1
      have S5 := S3.later G1
      clear k0 k1 k2
      have j0 := R5.c0
      have j1 := R5.c1
      have j2 := R5.c2
      go_wp2_with fail
      refine (stampIs_yes MS' C' N' _).mono ?_
      rintro e w6 ⟨rfl, G2⟩
      have R6 := R5.later G2
      have S6 := S5.later G2
      have BB6 : Below d w' w6 := (BB3.trans (G1.mono (by have := S3.lt; omega))).trans (G2.mono (by have := S5.lt; omega))
      clear j0 j1 j2
      have hx36 : l1 = 36 ∧ Cal.stampB x = true := by have := HB.out; simpa using this
      have hy36 : l2 = 36 ∧ Cal.stampB y = true := by have := HB'.out; simpa using this
      have HSX : Hid (Cal.stampB x = true) := hx36.2
      have HSY : Hid (Cal.stampB y = true) := hy36.2
      have T6 := ht.later (HDS.out ▸ BB6)
      have U6 := hu.later (HDS.out ▸ BB6)
      obtain ⟨rfl, _⟩ := hx36
      obtain ⟨rfl, _⟩ := hy36
      rcases T6.lies with h0 | ⟨b1, o1, rfl, _, hc1⟩
      · omega
      rcases U6.lies with h0 | ⟨b2, o2, rfl, _, hc2⟩
      · omega
      have HX : Hid (∀ k, k < 36 → w6.cell? ⟨b1, o1 + k, none⟩ = some (.int .u8 (x k))) := hc1
      have HY : Hid (∀ k, k < 36 → w6.cell? ⟨b2, o2 + k, none⟩ = some (.int .u8 (y k))) := hc2
      clear hc1 hc2
      obtain ⟨lx, HLX⟩ : ∃ v, Hid (Cal.lex x y 0 36 = v) := ⟨_, rfl⟩
      have HLV : Hid (Cal.ch (Cal.sgn MS MS') (Cal.ch (Cal.sgn C C') (Cal.sgn N N')) = lx) := by
        show _ = _
        rw [← HLX.out, Cal.stamps_order x y HSX.out HSY.out, HMS.out, HCC.out, HNN.out, HMS'.out, HCC'.out, HNN'.out]
      have k0 := S6.c0
      have k1 := S6.c1
      have k2 := S6.c2
      have j0 := R6.c0
      have j1 := R6.c1
      have j2 := R6.c2
      go_wp2_with fail
      refine wp_region_quiet_lit (by kernel_rfl) (by kernel_rfl) ?_
      go_big_quiet_step (fail)
      go_big_quiet_step (fail)
      go_big_quiet_step ((refine cmp_q b1 o1 c1 b2 o2 c2 36 _ x y lx _ (by omega) ?_ ?_ HLX; exact HX; exact HY))
      go_big_quiet_step (fail)
      go_big_quiet_step (fail)
      go_big_quiet_step (fail)
      go_big_quiet_step (fail)
      go_big_quiet_step (fail)
      go_big_quiet_step (fail)
      go_big_quiet_step (fail)
      go_big_quiet_step (fail)
      go_big_quiet_step (fail)
      go_big_quiet_step (fail)
      go_big_quiet_step (fail)
      go_big_quiet_step (fail)
      go_big_quiet_step ((exact cmpv_q _ _ _ _ _ _ lx _ _ HLV))
      go_big_quiet_step (fail)
      go_big_quiet_step (fail)
      refine wpQuiet_nil ?_
      rintro _ ⟨nq, rfl⟩
      go_wp2
      go_ret
      exact ⟨rfl, HDS.out ▸ bel_drewN BB6⟩
    · have HB' : Hid ((decide (l2 = 36) && Cal.stampB y) = false) := hb
      clear hb
      have S3 := S2.other O3 N1.out
      have BB3 : Below d w' w2 := BB2.trans (O3.below HCD.out (by have := S2.lt; omega))
      have T3 := ht.later (HDS.out ▸ BB3)
      have U3 := hu.later (HDS.out ▸ BB3)
      go_wp2_with fail
      refine (rd_c p1 l1 c1 x w2 T3).mono ?_
      rintro e w3 hr
      obtain ⟨_, rfl, rfl⟩ : (decide (l1 = 36) && Cal.stampB x) = true ∧ e = .returned (.tuple #[.int .i64 (Cal.msOf x), .int .i64 (Cal.hexV x 25 4), .int .i64 (Cal.hexV x 30 6), .bool true]) ∧ w3 = w2 := by
        rcases hr with h | ⟨h, _⟩
        · exact h
        · rw [HB.out] at h; cases h
      rw [HMS.out, HCC.out, HNN.out]
      go_wp2_with fail
      refine (rd_c p2 l2 c2 y _ U3).mono ?_
      rintro e w4 hr
      obtain ⟨rfl, rfl⟩ : RdNo _ e w4 := by
        rcases hr with ⟨h, _⟩ | ⟨_, h⟩
        · rw [HB'.out] at h; cases h
        · exact h
      have k0 := S3.c0
      have k1 := S3.c1
      have k2 := S3.c2
      go_wp2_with fail
      refine (stampIs_yes MS C N _).mono ?_
      rintro e w5 ⟨rfl, G1⟩
      have R5 := R3.later G1
      have S5 := S3.later G1
      clear k0 k1 k2
      have j0 := R5.c0
      have j1 := R5.c1
      have j2 := R5.c2
      go_wp2_with fail
      refine (stampIs_no _ _ _ _).mono ?_
      rintro e w6 ⟨rfl, G2⟩
      have R6 := R5.later G2
      have S6 := S5.later G2
      have BB6 : Below d w' w6 := (BB3.trans (G1.mono (by have := S3.lt; omega))).trans (G2.mono (by have := S5.lt; omega))
      clear j0 j1 j2
      go_wp2
      go_ret
      exact ⟨rfl, HDS.out ▸ BB6⟩
  · have HB : Hid ((decide (l1 = 36) && Cal.stampB x) = false) := hb
    clear hb
    have R2 := R1.other O2 (Ne.symm N1.out)
    have BB2 : Below d w' w1 := B1.trans (O2.below (Nat.le_refl _) (by have := S1.lt; omega))
    have T2 := hu.later (HDS.out ▸ BB2)
    have E2 := hs.later (HDS.out ▸ BB2)
    have F2 : Hid (F.answers w1.tape) := by rw [show w1.tape = w'.tape from BB2.tape]; exact HF.out
    go_wp2_with fail
    refine (unm_c F p2 l2 c2 y a s c 0 0 0 w1 F2.out T2 E2 R2).mono ?_
    rintro e w2 (⟨hb, rfl, R3, O3⟩ | ⟨hb, ⟨q', rfl⟩, R3, O3⟩)
    · have HB' : Hid ((decide (l2 = 36) && Cal.stampB y) = true) := hb
      clear hb
      rw [HMS'.out, HCC'.out, HNN'.out] at R3
      have S3 := S2.other O3 N1.out
      have BB3 : Below d w' w2 := BB2.trans (O3.below HCD.out (by have := S2.lt; omega))
      have T3 := ht.later (HDS.out ▸ BB3)
      have U3 := hu.later (HDS.out ▸ BB3)
      go_wp2_with fail
      refine (rd_c p1 l1 c1 x w2 T3).mono ?_
      rintro e w3 hr
      obtain ⟨rfl, rfl⟩ : RdNo w2 e w3 := by
        rcases hr with ⟨h, _⟩ | ⟨_, h⟩
        · rw [HB.out] at h; cases h
        · exact h
      go_wp2_with fail
      refine (rd_c p2 l2 c2 y _ U3).mono ?_
      rintro e w4 hr
      obtain ⟨_, rfl, rfl⟩ : (decide (l2 = 36) && Cal.stampB y) = true ∧ e = .returned (.tuple #[.int .i64 (Cal.msOf y), .int .i64 (Cal.hexV y 25 4), .int .i64 (Cal.hexV y 30 6), .bool true]) ∧ w4 = _ := by
        rcases hr with h | ⟨h, _⟩
        · exact h
        · rw [HB'.out] at h; cases h
      rw [HMS'.out, HCC'.out, HNN'.out]
      have k0 := S3.c0
      have k1 := S3.c1
      have k2 := S3.c2
      go_wp2_with fail
      refine (stampIs_no _ _ _ _).mono ?_
      rintro e w5 ⟨rfl, G1⟩
      have R5 := R3.later G1
      have S5 := S3.later G1
      clear k0 k1 k2
      have j0 := R5.c0
      have j1 := R5.c1
      have j2 := R5.c2
      go_wp2_with fail
      refine (stampIs_yes MS' C' N' _).mono ?_
      rintro e w6 ⟨rfl, G2⟩
      have R6 := R5.later G2
      have S6 := S5.later G2
      have BB6 : Below d w' w6 := (BB3.trans (G1.mono (by have := S3.lt; omega))).trans (G2.mono (by have := S5.lt; omega))
      clear j0 j1 j2
      go_wp2
      go_ret
      exact ⟨rfl, HDS.out ▸ BB6⟩
    · have HB' : Hid ((decide (l2 = 36) && Cal.stampB y) = false) := hb
      clear hb
      have S3 := S2.other O3 N1.out
      have BB3 : Below d w' w2 := BB2.trans (O3.below HCD.out (by have := S2.lt; omega))
      have T3 := ht.later (HDS.out ▸ BB3)
      have U3 := hu.later (HDS.out ▸ BB3)
      go_wp2_with fail
      refine (rd_c p1 l1 c1 x w2 T3).mono ?_
      rintro e w3 hr
      obtain ⟨rfl, rfl⟩ : RdNo w2 e w3 := by
        rcases hr with ⟨h, _⟩ | ⟨_, h⟩
        · rw [HB.out] at h; cases h
        · exact h
      go_wp2_with fail
      refine (rd_c p2 l2 c2 y _ U3).mono ?_
      rintro e w4 hr
      obtain ⟨rfl, rfl⟩ : RdNo _ e w4 := by
        rcases hr with ⟨h, _⟩ | ⟨_, h⟩
        · rw [HB'.out] at h; cases h
        · exact h
      have k0 := S3.c0
      have k1 := S3.c1
      have k2 := S3.c2
      go_wp2_with fail
      refine (stampIs_no _ _ _ _).mono ?_
      rintro e w5 ⟨rfl, G1⟩
      have R5 := R3.later G1
      have S5 := S3.later G1
      clear k0 k1 k2
      have j0 := R5.c0
      have j1 := R5.c1
      have j2 := R5.c2
      go_wp2_with fail
      refine (stampIs_no _ _ _ _).mono ?_
      rintro e w6 ⟨rfl, G2⟩
      have R6 := R5.later G2
      have S6 := S5.later G2
      have BB6 : Below d w' w6 := (BB3.trans (G1.mono (by have := S3.lt; omega))).trans (G2.mono (by have := S5.lt; omega))
      clear j0 j1 j2
      go_wp2
      go_ret
      exact ⟨rfl, HDS.out ▸ BB6⟩
end Go.Proofs.Qxb6613619aFmt
