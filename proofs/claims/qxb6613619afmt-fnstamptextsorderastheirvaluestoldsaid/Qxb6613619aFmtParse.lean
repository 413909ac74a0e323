/-
  THE WALK OF parseStamp.
-/
import Derived.Test.Qxb6613619aFmtTime2
import Derived.Test.Qxb6613619aFmtShape
import Derived.Laws.BytesArg
namespace Go.Proofs.Qxb6613619aFmt
open Go.RowKit Go.Extern.Stop Go.Stop Go.Extern

/-- A slice of bytes as it lies in memory: byte k is 'x k'. -/
structure TextAt (w : World) (p : Option Addr) (len cap : Nat) (x : Nat → Int) : Prop where
  xb : ∀ k, 0 ≤ x k ∧ x k ≤ 255
  bound : len ≤ 65536
  room : len ≤ cap
  lies : len = 0 ∨ ∃ b off, p = some ⟨b, off, none⟩ ∧ b < w.heap.size ∧ ∀ k, k < len → w.cell? ⟨b, off + k, none⟩ = some (.int .u8 (x k))

theorem TextAt.later {w w' : World} {p : Option Addr} {len cap : Nat} {x : Nat → Int} (h : TextAt w p len cap x) (hb : Below w.heap.size w w') : TextAt w' p len cap x := by
  refine ⟨h.xb, h.bound, h.room, ?_⟩
  rcases h.lies with h0 | ⟨b, off, hp, hlt, hc⟩
  · exact Or.inl h0
  · exact Or.inr ⟨b, off, hp, Nat.lt_of_lt_of_le hlt hb.size, fun k hk => by rw [hb.cell (p := ⟨b, off + k, none⟩) hlt]; exact hc k hk⟩

theorem run_convert_bytes_zero {P : Program} (w : World) (src e : TypeId) (hs : P.underlying src = some (.slice e)) (he : P.underlying e = some (.int .u8)) (p : Option Addr) (c : Nat) :
    ∀ dst, P.underlying dst = some .string → (convert src dst (.slice p 0 c)).run P w = .ok (.string ByteArray.empty) w := by
  intro dst hd
  rw [run_convert_bytes_string w src dst e _ 0 c hs he hd]
  cases p with
  | none => simp [Conv.bytesToString]
  | some a =>
    have hl : (loadCells a 0).run P w = .ok #[] w := by simpa using run_loadCells_list (P := P) w a [] (fun j v hj => by simp at hj)
    simpa using run_bytesToString w a 0 c [] (by simpa using hl)

theorem TextAt.conv {w : World} {p : Option Addr} {len cap : Nat} {x : Nat → Int} (h : TextAt w p len cap x) : ∃ t : ByteArray, t.size = len ∧ (convert 22 9 (.slice p len cap)).run Tryf.prog w = .ok (.string t) w := by
  rcases h.lies with rfl | ⟨b, off, rfl, _, hc⟩
  · exact ⟨ByteArray.empty, rfl, run_convert_bytes_zero w 22 5 Tryf.underlying22 Tryf.underlying5 p cap 9 Tryf.underlying9⟩
  · refine ⟨strOfNums ((List.range len).map x), by rw [strOfNums_size]; simp, run_convert_bytes_arg w 22 5 Tryf.underlying22 Tryf.underlying5 b off len cap ((List.range len).map x) (by simp) ?_ 9 Tryf.underlying9⟩
    intro i hi
    rw [hc i hi]
    simp [List.getD, hi]

theorem bel_drewN {B : Nat} {w w1 : World} {n : Nat} (h : Below B w w1) : Below B w (w1.drewN n) := ⟨h.os, h.tape, h.output, h.size, h.block⟩
theorem bcell {W w1 : World} (hb : Below W.heap.size W w1) : (∀ b o, b < W.heap.size → w1.cell? ⟨b, o, none⟩ = W.cell? ⟨b, o, none⟩) ∧ (∀ b o, b < W.heap.size → w1.frozen? ⟨b, o, none⟩ = W.frozen? ⟨b, o, none⟩) :=
  ⟨fun b o h => hb.cell (p := ⟨b, o, none⟩) h, fun b o h => hb.frozen (p := ⟨b, o, none⟩) h⟩

/-- The sentinel's variable and text. -/
structure SentAt (w : World) (g : Nat) (a : Addr) (s : ByteArray) : Prop where
  var : w.cell? ⟨g, 0, none⟩ = some (.iface 75 (.pointer (some a)))
  text : w.cell? a = some (.string s)
theorem SentAt.later {w w' : World} {g : Nat} {a : Addr} {s : ByteArray} (h : SentAt w g a s) (hb : Below w.heap.size w w') : SentAt w' g a s :=
  ⟨by rw [hb.cell (p := ⟨g, 0, none⟩) (World.block_lt_of_cell? _ _ h.var)]; exact h.var, by rw [hb.cell (World.block_lt_of_cell? _ _ h.text)]; exact h.text⟩

def NoOut (w : World) (e : Ending) (w' : World) : Prop := (∃ q, e = .returned (.tuple #[.agg #[.int .i64 0, .int .i64 0, .int .i64 0], .iface 68 (.pointer (some q))])) ∧ Below w.heap.size w w'

set_option maxRecDepth 100000 in
set_option maxHeartbeats 1000000 in
theorem parse_len (F : Interp) (p : Option Addr) (len cap : Nat) (x : Nat → Int) (a : Addr) (s : ByteArray) (w : World) (hF : F.answers w.tape) (ht : TextAt w p len cap x) (hs : SentAt w 1 a s)
    (hne : ((len : Int) == 36) = false) :
    Calls Tryf.prog 27 #[.slice p len cap] w (NoOut w) := by
  have hlen := ht.bound
  have HF : Hid (F.answers w.tape) := hF
  clear hF
  have hb0 := (Below.refl w.heap.size w).alloc (Nat.le_refl _) (.cells #[.int .i64 0, .int .i64 0, .int .i64 0] 47)
  have h1 : 1 < w.heap.size := World.block_lt_of_cell? _ _ hs.var
  have hvar := hs.var
  obtain ⟨t, htl, hconv⟩ := (ht.later hb0).conv
  have hs0 := hs.later hb0
  go_enter Tryf.func27, Tryf.ntmps27
  go_wp2_with fail
  refine (shape_c F a s t _ _ _ (by exact HF.out) hs0.text ?_ ?_).mono ?_
  · unfold maxLen; omega
  · unfold maxLen; decide
  rintro e w1 ⟨he, hb⟩
  obtain ⟨hc, hf⟩ := bcell hb
  have hz : w.heap.size + 1 ≤ w1.heap.size := by have := hb.size; simpa using this
  have hz1 : w.heap.size < w1.heap.size := by omega
  have hz2 : 1 < w1.heap.size := by omega
  have HT : Hid (F.answers w1.tape) := by rw [show w1.tape = w.tape from hb.tape]; exact HF.out
  have hs1 := hs0.later hb
  have HB : Hid (Below w.heap.size w w1) := hb0.trans (hb.mono (by simp))
  have hv1 := hs1.var
  rcases he with rfl | ⟨q, rfl⟩
  · go_wp2_with fail
    refine (errorf_time_new F a s w1 HT.out hs1.text).mono ?_
    rintro e w2 ⟨⟨q, rfl⟩, hb2⟩
    obtain ⟨hc2, hf2⟩ := bcell hb2
    have hz3 : w.heap.size < w2.heap.size := by have := hb2.size; omega
    go_wp2
    exact bodyPost_ret (v := .tuple #[.agg #[.int .i64 0, .int .i64 0, .int .i64 0], .iface 68 (.pointer (some q))]) (by simp [results, Tryf.results27, go_sem, hc, hz1, hc2]) rfl ⟨⟨q, rfl⟩, (((HB.out.trans (hb2.mono (by omega))).setCell (Nat.le_refl _) _).setCell (Nat.le_refl _) _).setCell (Nat.le_refl _) _⟩
  · go_wp2
    exact bodyPost_ret (v := .tuple #[.agg #[.int .i64 0, .int .i64 0, .int .i64 0], .iface 68 (.pointer (some q))]) (by simp [results, Tryf.results27, go_sem, hc]) rfl ⟨⟨q, rfl⟩, ((HB.out.setCell (Nat.le_refl _) _).setCell (Nat.le_refl _) _).setCell (Nat.le_refl _) _⟩

/-- readTime, whole. -/
def TimeC (x : Nat → Int) (w : World) (e : Ending) (w' : World) : Prop :=
  ∃ R, e = .returned (.tuple #[.int .i64 R, .bool (Cal.timeB x && Cal.dayB x)]) ∧ ((Cal.timeB x && Cal.dayB x) = true → R = Cal.msOf x) ∧ ∃ n, w' = w.drewN n
theorem time_c (b o cap : Nat) (x : Nat → Int) (w : World) (hcap : 36 ≤ cap) (hx : ∀ k, 0 ≤ x k ∧ x k ≤ 255)
    (hc : ∀ k, k < 36 → w.cell? ⟨b, o + k, none⟩ = some (.int .u8 (x k))) : Calls Tryf.prog 34 #[.slice (some ⟨b, o, none⟩) 24 cap] w (TimeC x w) := by
  cases hsep : Cal.sepT x with
  | false =>
    refine (time_sep b o cap x w _ _ _ _ _ _ _ hcap hx hc rfl rfl rfl rfl rfl rfl rfl hsep).mono ?_
    rintro e w' ⟨rfl, hn⟩
    have : Cal.timeB x = false := by unfold Cal.timeB; rw [hsep]; rfl
    exact ⟨0, by rw [this]; rfl, (by rw [this]; intro h; cases h), hn⟩
  | true =>
    have hs := hsep
    unfold Cal.sepT at hs
    simp only [decide_eq_true_eq] at hs
    obtain ⟨s4, s7, s10, s13, s16, s19, s23⟩ := hs
    refine (time_core b o cap x w _ _ _ _ _ _ _ hcap hx hc rfl rfl rfl rfl rfl rfl rfl s4 s7 s10 s13 s16 s19 s23 ?_ ?_ ?_ ?_).mono ?_
    · have := (Cal.decV_bd x 0 4).2; omega
    · have := (Cal.decV_bd x 8 2).2; omega
    · exact (Cal.decV_bd x 8 2).1
    · have := (Cal.decV_bd x 20 3).2; omega
    rintro e w' ⟨R, ok, rfl, hr, hn⟩
    have e1 : (Cal.timeB x && Cal.dayB x) = ok := by
      unfold Cal.timeB Cal.dayB
      rw [hsep]
      rcases hr with ⟨rfl, h1, h2, h3, _⟩ | ⟨rfl, _, h⟩
      · simp only [Bool.true_and, Bool.and_eq_true, decide_eq_true_eq]
        exact ⟨h1, h2, h3⟩
      · simp only [Bool.true_and]
        rw [Bool.eq_false_iff]
        intro hq
        simp only [Bool.and_eq_true, decide_eq_true_eq] at hq
        exact h hq
    rw [← e1] at hr ⊢
    refine ⟨R, rfl, fun hok => ?_, hn⟩
    rcases hr with ⟨_, _, _, _, h⟩ | ⟨h, _⟩
    · exact h
    · rw [hok] at h; cases h

theorem readHex_v (b o cap i n : Nat) (x : Nat → Int) (v : Int) (w : World) (hn : n ≤ 6) (hl : i + n ≤ 36) (hx : ∀ k, 0 ≤ x k ∧ x k ≤ 255)
    (hc : Hid (∀ k, k < 36 → w.cell? ⟨b, o + k, none⟩ = some (.int .u8 (x k)))) (hv : Hid (Cal.hexV x i n = v)) :
    Calls Tryf.prog 35 #[.slice (some ⟨b, o + i, none⟩) n cap] w fun e w' => e = .returned (.int .i64 v) ∧ w' = w := by
  rw [← hv.out]
  exact readHex_c b (o + i) n cap i x w hn hx fun k hk => by rw [Nat.add_assoc]; exact hc.out (i + k) (by omega)

def YesOut (x : Nat → Int) (w : World) (e : Ending) (w' : World) : Prop :=
  e = .returned (.tuple #[.agg #[.int .i64 (Cal.msOf x), .int .i64 (Cal.hexV x 25 4), .int .i64 (Cal.hexV x 30 6)], .nilIface]) ∧ Below w.heap.size w w'
def ParseOut (x : Nat → Int) (w : World) (e : Ending) (w' : World) : Prop := (Cal.stampB x = true ∧ YesOut x w e w') ∨ (Cal.stampB x = false ∧ NoOut w e w')

set_option maxRecDepth 100000 in
set_option maxHeartbeats 1000000 in
theorem parse_36 (F : Interp) (b o cap : Nat) (x : Nat → Int) (a : Addr) (s : ByteArray) (w : World) (hF : F.answers w.tape) (ht : TextAt w (some ⟨b, o, none⟩) 36 cap x) (hs : SentAt w 1 a s)
    (hlt : b < w.heap.size) (hcell : ∀ k, k < 36 → w.cell? ⟨b, o + k, none⟩ = some (.int .u8 (x k))) :
    Calls Tryf.prog 27 #[.slice (some ⟨b, o, none⟩) 36 cap] w (ParseOut x w) := by
  have HF : Hid (F.answers w.tape) := hF
  clear hF
  have hcap := ht.room
  have hx := ht.xb
  have q24 : (24 : Int) ≤ (cap : Int) := by omega
  have q29 : (29 : Int) ≤ (cap : Int) := by omega
  have q36 : (36 : Int) ≤ (cap : Int) := by omega
  have hb0 := (Below.refl w.heap.size w).alloc (Nat.le_refl _) (.cells #[.int .i64 0, .int .i64 0, .int .i64 0] 47)
  have h1 : 1 < w.heap.size := World.block_lt_of_cell? _ _ hs.var
  have hvar := hs.var
  have c24 := hcell 24 (by omega)
  have c29 := hcell 29 (by omega)
  have HC0 : Hid (∀ k, k < 36 → (w.alloc (.cells #[.int .i64 0, .int .i64 0, .int .i64 0] 47)).cell? ⟨b, o + k, none⟩ = some (.int .u8 (x k))) := fun k hk => by rw [hb0.cell (p := ⟨b, o + k, none⟩) hlt]; exact hcell k hk
  clear hcell
  by_cases e24 : (x 24 == 45) = true
  · by_cases e29 : (x 29 == 45) = true
    · go_enter Tryf.func27, Tryf.ntmps27
      go_wp2_with fail
      refine (time_c b o _ x _ hcap hx HC0.out).mono ?_
      rintro e w' ⟨R, rfl, hR, n, rfl⟩
      have HR : Hid ((Cal.timeB x && Cal.dayB x) = true → R = Cal.msOf x) := hR
      clear hR
      obtain ⟨ok, HK⟩ : ∃ v, Hid ((Cal.timeB x && Cal.dayB x) = v) := ⟨_, rfl⟩
      rw [HK.out]
      obtain ⟨C, HCt⟩ : ∃ v, Hid (Cal.hexV x 25 4 = v) := ⟨_, rfl⟩
      obtain ⟨N, HN⟩ : ∃ v, Hid (Cal.hexV x 30 6 = v) := ⟨_, rfl⟩
      go_wp2_with fail
      refine (readHex_v b o _ 25 4 x C _ (by omega) (by omega) hx ?_ HCt).mono ?_
      · exact HC0.out
      rintro e w' ⟨rfl, rfl⟩
      go_wp2_with fail
      refine (readHex_v b o _ 30 6 x N _ (by omega) (by omega) hx ?_ HN).mono ?_
      · exact HC0.out
      rintro e w' ⟨rfl, rfl⟩
      by_cases hok : ok = true ∧ 0 ≤ C ∧ 0 ≤ N
      · obtain ⟨rfl, hC0, hN0⟩ := hok
        have HY : Hid (Cal.stampB x = true) := by
          show _ = _
          unfold Cal.stampB
          rw [HK.out, HCt.out, HN.out]
          simp only [Bool.and_true, Bool.and_eq_true, decide_eq_true_eq]
          exact ⟨⟨by simpa using e24, by simpa using e29⟩, hC0, hN0⟩
        have HRR : Hid (R = Cal.msOf x) := HR.out HK.out
        go_wp2
        exact bodyPost_ret (v := .tuple #[.agg #[.int .i64 R, .int .i64 C, .int .i64 N], .nilIface]) (by simp [results, Tryf.results27, go_sem]) rfl (Or.inl ⟨HY.out, by rw [HRR.out, ← HCt.out, ← HN.out], by go_grown; exact bel_drewN hb0⟩)
      · have HNO : Hid (Cal.stampB x = false) := by
          show _ = _
          unfold Cal.stampB
          rw [HK.out, HCt.out, HN.out, Bool.eq_false_iff]
          intro hq
          simp only [Bool.and_eq_true, decide_eq_true_eq] at hq
          exact hok ⟨hq.1.2, hq.2⟩
        have HBW : Below w.heap.size w ((w.alloc (.cells #[.int .i64 0, .int .i64 0, .int .i64 0] 47)).drewN n) := bel_drewN hb0
        have TH := ht.later HBW
        have HS := hs.later HBW
        have hok' : ok = false ∨ (ok = true ∧ C < 0) ∨ (ok = true ∧ 0 ≤ C ∧ N < 0) := by
          cases ok
          · exact Or.inl rfl
          · simp only [true_and, not_and] at hok; by_cases hC : 0 ≤ C
            · exact Or.inr (Or.inr ⟨rfl, hC, by have := hok hC; omega⟩)
            · exact Or.inr (Or.inl ⟨rfl, by omega⟩)
        clear hok
        rcases hok' with rfl | ⟨rfl, hC⟩ | ⟨rfl, hC, hN⟩
        all_goals
          have hcv := TH.conv
          obtain ⟨t, htl, hconv⟩ := hcv
          go_wp2_with fail
          refine (shape_c F a s t _ _ _ (by exact HF.out) HS.text ?_ ?_).mono ?_
          · unfold maxLen; omega
          · unfold maxLen; decide
          rintro e w1 ⟨he, hb⟩
          obtain ⟨hc, hf⟩ := bcell hb
          have hz : w.heap.size + 1 ≤ w1.heap.size := by have := hb.size; simpa using this
          have hz1 : w.heap.size < w1.heap.size := by omega
          have hz2 : 1 < w1.heap.size := by omega
          have HT : Hid (F.answers w1.tape) := by rw [show w1.tape = w.tape from hb.tape]; exact HF.out
          have hs1 := HS.later hb
          have HB : Hid (Below w.heap.size w w1) := HBW.trans (hb.mono (by simp))
          have hv1 := hs1.var
          rcases he with rfl | ⟨q, rfl⟩
          · go_wp2_with fail
            refine (errorf_time_new F a s w1 HT.out hs1.text).mono ?_
            rintro e w2 ⟨⟨q, rfl⟩, hb2⟩
            obtain ⟨hc2, hf2⟩ := bcell hb2
            have hz3 : w.heap.size < w2.heap.size := by have := hb2.size; omega
            go_wp2
            exact bodyPost_ret (v := .tuple #[.agg #[.int .i64 0, .int .i64 0, .int .i64 0], .iface 68 (.pointer (some q))]) (by simp [results, Tryf.results27, go_sem, hc, hz1, hc2]) rfl (Or.inr ⟨HNO.out, ⟨q, rfl⟩, (((HB.out.trans (hb2.mono (by omega))).setCell (Nat.le_refl _) _).setCell (Nat.le_refl _) _).setCell (Nat.le_refl _) _⟩)
          · go_wp2
            exact bodyPost_ret (v := .tuple #[.agg #[.int .i64 0, .int .i64 0, .int .i64 0], .iface 68 (.pointer (some q))]) (by simp [results, Tryf.results27, go_sem, hc]) rfl (Or.inr ⟨HNO.out, ⟨q, rfl⟩, ((HB.out.setCell (Nat.le_refl _) _).setCell (Nat.le_refl _) _).setCell (Nat.le_refl _) _⟩)
    · have e29' : (x 29 == 45) = false := by simpa using e29
      clear e29
      have HNO : Hid (Cal.stampB x = false) := by
        show _ = _
        unfold Cal.stampB
        rw [Bool.eq_false_iff]
        intro hq
        simp only [Bool.and_eq_true, decide_eq_true_eq] at hq
        rw [hq.1.1.2] at e29'
        simp at e29'
      have HBW := hb0
      have TH := ht.later hb0
      have HS := hs.later hb0
      go_enter Tryf.func27, Tryf.ntmps27
      have hcv := TH.conv
      obtain ⟨t, htl, hconv⟩ := hcv
      go_wp2_with fail
      refine (shape_c F a s t _ _ _ (by exact HF.out) HS.text ?_ ?_).mono ?_
      · unfold maxLen; omega
      · unfold maxLen; decide
      rintro e w1 ⟨he, hb⟩
      obtain ⟨hc, hf⟩ := bcell hb
      have hz : w.heap.size + 1 ≤ w1.heap.size := by have := hb.size; simpa using this
      have hz1 : w.heap.size < w1.heap.size := by omega
      have hz2 : 1 < w1.heap.size := by omega
      have HT : Hid (F.answers w1.tape) := by rw [show w1.tape = w.tape from hb.tape]; exact HF.out
      have hs1 := HS.later hb
      have HB : Hid (Below w.heap.size w w1) := HBW.trans (hb.mono (by simp))
      have hv1 := hs1.var
      rcases he with rfl | ⟨q, rfl⟩
      · go_wp2_with fail
        refine (errorf_time_new F a s w1 HT.out hs1.text).mono ?_
        rintro e w2 ⟨⟨q, rfl⟩, hb2⟩
        obtain ⟨hc2, hf2⟩ := bcell hb2
        have hz3 : w.heap.size < w2.heap.size := by have := hb2.size; omega
        go_wp2
        exact bodyPost_ret (v := .tuple #[.agg #[.int .i64 0, .int .i64 0, .int .i64 0], .iface 68 (.pointer (some q))]) (by simp [results, Tryf.results27, go_sem, hc, hz1, hc2]) rfl (Or.inr ⟨HNO.out, ⟨q, rfl⟩, (((HB.out.trans (hb2.mono (by omega))).setCell (Nat.le_refl _) _).setCell (Nat.le_refl _) _).setCell (Nat.le_refl _) _⟩)
      · go_wp2
        exact bodyPost_ret (v := .tuple #[.agg #[.int .i64 0, .int .i64 0, .int .i64 0], .iface 68 (.pointer (some q))]) (by simp [results, Tryf.results27, go_sem, hc]) rfl (Or.inr ⟨HNO.out, ⟨q, rfl⟩, ((HB.out.setCell (Nat.le_refl _) _).setCell (Nat.le_refl _) _).setCell (Nat.le_refl _) _⟩)
  · have e24' : (x 24 == 45) = false := by simpa using e24
    clear e24
    have HNO : Hid (Cal.stampB x = false) := by
      show _ = _
      unfold Cal.stampB
      rw [Bool.eq_false_iff]
      intro hq
      simp only [Bool.and_eq_true, decide_eq_true_eq] at hq
      rw [hq.1.1.1] at e24'
      simp at e24'
    have HBW := hb0
    have TH := ht.later hb0
    have HS := hs.later hb0
    go_enter Tryf.func27, Tryf.ntmps27
    have hcv := TH.conv
    obtain ⟨t, htl, hconv⟩ := hcv
    go_wp2_with fail
    refine (shape_c F a s t _ _ _ (by exact HF.out) HS.text ?_ ?_).mono ?_
    · unfold maxLen; omega
    · unfold maxLen; decide
    rintro e w1 ⟨he, hb⟩
    obtain ⟨hc, hf⟩ := bcell hb
    have hz : w.heap.size + 1 ≤ w1.heap.size := by have := hb.size; simpa using this
    have hz1 : w.heap.size < w1.heap.size := by omega
    have hz2 : 1 < w1.heap.size := by omega
    have HT : Hid (F.answers w1.tape) := by rw [show w1.tape = w.tape from hb.tape]; exact HF.out
    have hs1 := HS.later hb
    have HB : Hid (Below w.heap.size w w1) := HBW.trans (hb.mono (by simp))
    have hv1 := hs1.var
    rcases he with rfl | ⟨q, rfl⟩
    · go_wp2_with fail
      refine (errorf_time_new F a s w1 HT.out hs1.text).mono ?_
      rintro e w2 ⟨⟨q, rfl⟩, hb2⟩
      obtain ⟨hc2, hf2⟩ := bcell hb2
      have hz3 : w.heap.size < w2.heap.size := by have := hb2.size; omega
      go_wp2
      exact bodyPost_ret (v := .tuple #[.agg #[.int .i64 0, .int .i64 0, .int .i64 0], .iface 68 (.pointer (some q))]) (by simp [results, Tryf.results27, go_sem, hc, hz1, hc2]) rfl (Or.inr ⟨HNO.out, ⟨q, rfl⟩, (((HB.out.trans (hb2.mono (by omega))).setCell (Nat.le_refl _) _).setCell (Nat.le_refl _) _).setCell (Nat.le_refl _) _⟩)
    · go_wp2
      exact bodyPost_ret (v := .tuple #[.agg #[.int .i64 0, .int .i64 0, .int .i64 0], .iface 68 (.pointer (some q))]) (by simp [results, Tryf.results27, go_sem, hc]) rfl (Or.inr ⟨HNO.out, ⟨q, rfl⟩, ((HB.out.setCell (Nat.le_refl _) _).setCell (Nat.le_refl _) _).setCell (Nat.le_refl _) _⟩)

/-- parseStamp, whole: a text of another length than 36, or one that is no stamp, is refused. -/
def StampOut (len : Nat) (x : Nat → Int) (w : World) (e : Ending) (w' : World) : Prop :=
  ((decide (len = 36) && Cal.stampB x) = true ∧ YesOut x w e w') ∨ ((decide (len = 36) && Cal.stampB x) = false ∧ NoOut w e w')
theorem parse_c (F : Interp) (p : Option Addr) (len cap : Nat) (x : Nat → Int) (a : Addr) (s : ByteArray) (w : World) (hF : F.answers w.tape) (ht : TextAt w p len cap x) (hs : SentAt w 1 a s) :
    Calls Tryf.prog 27 #[.slice p len cap] w (StampOut len x w) := by
  by_cases h : len = 36
  · subst h
    rcases ht.lies with h0 | ⟨b, off, rfl, hlt, hc⟩
    · omega
    · refine (parse_36 F b off cap x a s w hF ht hs hlt hc).mono ?_
      rintro e w' (⟨h1, h2⟩ | ⟨h1, h2⟩)
      · exact Or.inl ⟨by simpa using h1, h2⟩
      · exact Or.inr ⟨by simpa using h1, h2⟩
  · refine (parse_len F p len cap x a s w hF ht hs (by rw [beq_eq_false_iff_ne]; omega)).mono ?_
    intro e w' h2
    exact Or.inr ⟨by simp [h], h2⟩
end Go.Proofs.Qxb6613619aFmt
