/-
  THE LAW's WALK: FnNewReportsByWorkerMakesHoldersThatShareNothing returns true, and leaves what was in memory.
-/
import Derived.Test.Qxb6613686aChunk
import Derived.Deep.Light
namespace Go.Proofs.Qxb6613686a
open Go.RowKit Go.Maps
set_option maxRecDepth 100000
def Bool' (e : Ending) : Prop := ∃ b, e = .returned (.bool b)
theorem bytes_any (n1 n2 m : Int) (a0 a1 : ByteArray) (w0 : a0.size ≤ maxLen) (w1 : a1.size ≤ maxLen) (w : World) :
    Calls Try.prog 13 #[.int .i64 n1, .int .i64 n2, .int .i64 m, .string a0, .string a1] w fun e w' => Bool' e ∧ w' = w := by
  have hm : maxLen = 9223372036854775807 := rfl
  rcases (by omega : 1048576 < a0.size ∨ (a0.size ≤ 1048576 ∧ 1048576 < a1.size) ∨ (a0.size ≤ 1048576 ∧ a1.size ≤ 1048576 ∧ 1048576 < a0.size + a1.size) ∨ (a0.size ≤ 1048576 ∧ a1.size ≤ 1048576 ∧ a0.size + a1.size ≤ 1048576)) with h | ⟨h1, h2⟩ | ⟨h1, h2, h3⟩ | ⟨h1, h2, h3⟩
  all_goals
    go_enter Try.func13, Try.ntmps13
    go_wp2
    go_ret
    exact ⟨⟨_, rfl⟩, rfl⟩
/-- One employer's index. -/
def D1 (id : ByteArray) : DataW Unit := (DataW.map []).put (.string id.data.toList) (.lit (.int .i32 0))
theorem has_none (id : ByteArray) : Maps.has (H := Unit) (.map []) (.string id.data.toList) = false := rfl
theorem has_same (id : ByteArray) : Maps.has (D1 id) (.string id.data.toList) = true := by
  simp [D1, DataW.put, Maps.has, DataW.insert, Lit.sameKey]
theorem at_same (id : ByteArray) : (D1 id).atKey (.string id.data.toList) (.lit (.int .i32 0)) = .lit (.int .i32 0) := by
  simp [D1, DataW.put, DataW.atKey, DataW.insert, Lit.sameKey]
theorem has_other (id id' : ByteArray) (h : ¬ id.toList = id'.toList) : Maps.has (D1 id) (.string id'.data.toList) = false := by
  have h' : ¬ id.data = id'.data := fun e => h (by rw [ByteArray.toList_eq, ByteArray.toList_eq, e])
  simp [D1, DataW.put, Maps.has, DataW.insert, Lit.sameKey, h']

def Outside (n1 n2 m : Int) (id1 id2 : ByteArray) : Prop := 524288 < id1.size ∨ (id1.size ≤ 524288 ∧ 524288 < id2.size) ∨
  (id1.size ≤ 524288 ∧ id2.size ≤ 524288 ∧ (n1 < 0 ∨ 65536 < n1 ∨ (0 ≤ n1 ∧ n1 ≤ 65536 ∧ n2 < 0) ∨ (0 ≤ n1 ∧ n1 ≤ 65536 ∧ 65536 < n2) ∨ (0 ≤ n1 ∧ n1 ≤ 65536 ∧ 0 ≤ n2 ∧ n2 ≤ 65536 ∧ (m < 0 ∨ 16384 < m))))
set_option maxHeartbeats 2000000 in
theorem law4_out (n1 n2 m : Int) (id1 id2 : ByteArray) (w3 : id1.size ≤ maxLen) (w4 : id2.size ≤ maxLen) (w : World) (h : Outside n1 n2 m id1 id2) :
    Calls Try.prog 4 #[.int .i64 n1, .int .i64 n2, .int .i64 m, .string id1, .string id2] w fun e w' => e = .returned (.bool true) ∧ w' = w := by
  have hm : maxLen = 9223372036854775807 := rfl
  rcases h with h | ⟨h1, h2⟩ | ⟨h1, h2, h3 | h3 | ⟨h3, h4, h5⟩ | ⟨h3, h4, h5⟩ | ⟨h3, h4, h5, h6, h7 | h7⟩⟩
  all_goals
    go_enter Try.func4, Try.ntmps4
    go_wp2_with fail
    refine (bytes_any n1 n2 m id1 id2 w3 w4 _).mono ?_
    rintro e w' ⟨⟨b, rfl⟩, rfl⟩
    cases b
    · go_wp2
      go_ret
      exact ⟨rfl, rfl⟩
    · go_wp2
      go_ret
      exact ⟨rfl, rfl⟩

/-- The two holders, once the second has been used. -/
def Both (B1 b1 n1 m : Nat) (id1 : ByteArray) (w wr : World) : Prop := Hold B1 b1 n1 m 1 (D1 id1) wr ∧ Below B1 w wr ∧ B1 ≤ wr.heap.size
theorem Both.next {B1 b1 n1 m B2 : Nat} {id1 : ByteArray} {w wr w' : World} (h : Both B1 b1 n1 m id1 w wr) (hB : wr.heap.size = B2) (hb : Below B2 wr w') : Both B1 b1 n1 m id1 w w' :=
  ⟨h.1.below (Nat.le_of_eq hB) hb, h.2.1.trans (hb.mono (by rw [← hB]; exact h.2.2)), Nat.le_trans h.2.2 hb.size⟩
theorem hold_cell {B b n c ne : Nat} {D : DataW Unit} {w : World} (h : Hold B b n c ne D w) : ∃ ws, w.cell? ⟨b, 0, none⟩ = some (.slice ws n n) := by
  obtain ⟨ws, bm, sv, ev, ss, es, km, ns, h1, h2, h3, h4, h5, _⟩ := h
  exact ⟨ws, by simp [World.cell?, h5]⟩
theorem count_h {B b n c ne : Nat} {D : DataW Unit} {w : World} (h : Hold B b n c ne D w) : Calls Try.prog 10 #[.pointer (some ⟨b, 0, none⟩)] w fun e w' => e = .returned (.int .i64 n) ∧ w' = w := by
  obtain ⟨ws, hc⟩ := hold_cell h
  exact count_c b ws n n w hc
/-- The first holder at the end: whatever its employers. -/
def First (B1 b1 n1 m : Nat) (w w' : World) : Prop := (∃ ne D, Hold B1 b1 n1 m ne D w') ∧ Below B1 w w' ∧ B1 ≤ w'.heap.size
theorem last_chunk (B1 b1 n1 m : Nat) (w wr : World) (hm : m ≤ 20000) (h : First B1 b1 n1 m w wr) : Calls Try.prog 15 #[.pointer (some ⟨b1, 0, none⟩)] wr fun e w' => e = .returned (.int .u32 m) ∧ First B1 b1 n1 (m + 1) w w' := by
  obtain ⟨⟨ne, D, h1⟩, h2, h3⟩ := h
  refine (zzchunk_c B1 b1 n1 m ne D wr h3 hm h1).mono ?_
  rintro e w' ⟨rfl, h4, h5⟩
  exact ⟨rfl, ⟨_, _, h4⟩, h2.trans h5, Nat.le_trans h3 h5.size⟩
theorem last_count (B1 b1 n1 m : Nat) (w wr : World) (h : First B1 b1 n1 m w wr) : Calls Try.prog 10 #[.pointer (some ⟨b1, 0, none⟩)] wr fun e w' => e = .returned (.int .i64 n1) ∧ w' = wr := by
  obtain ⟨⟨ne, D, h1⟩, _⟩ := h
  exact count_h h1
/-- ZZemployer of the first holder, at the second name. -/
theorem last_emp (B1 b1 n1 m : Nat) (id1 id2 : ByteArray) (w wr : World) (hid : id2.size ≤ 1048576) (h : Both B1 b1 n1 m id1 w wr) (r : Nat) (hr : (id1 = id2 ∧ r = 0) ∨ (¬ id1.toList = id2.toList ∧ r = 1)) :
    Calls Try.prog 14 #[.pointer (some ⟨b1, 0, none⟩), .int .i32 (-1), .string id2] wr fun e w' => e = .returned (.int .i32 r) ∧ First B1 b1 n1 m w w' := by
  rcases hr with ⟨rfl, rfl⟩ | ⟨hne, rfl⟩
  · refine (zzemp_old B1 b1 n1 m 1 (D1 id1) id1 wr 0 hid h.1 (has_same id1) (at_same id1)).mono ?_
    rintro e w' ⟨rfl, rfl⟩
    exact ⟨rfl, ⟨_, _, h.1⟩, h.2⟩
  · refine (zzemp_new B1 b1 n1 m 1 (D1 id1) id2 wr h.2.2 hid (by omega) h.1 (has_other id1 id2 hne)).mono ?_
    rintro e w' ⟨rfl, h1, h2⟩
    exact ⟨rfl, ⟨_, _, h1⟩, h.2.1.trans h2, Nat.le_trans h.2.2 h2.size⟩

set_option maxHeartbeats 4000000 in
theorem law4_in (n1 n2 m : Nat) (id1 id2 : ByteArray) (w : World) (b1 : id1.size ≤ 524288) (b2 : id2.size ≤ 524288) (h1 : n1 ≤ 65536) (h2 : n2 ≤ 65536) (h3 : m ≤ 16384) (r : Nat) (hr : (id1 = id2 ∧ r = 0) ∨ (¬ id1.toList = id2.toList ∧ r = 1)) :
    Calls Try.prog 4 #[.int .i64 n1, .int .i64 n2, .int .i64 m, .string id1, .string id2] w fun e w' => e = .returned (.bool true) ∧ Below w.heap.size w w' := by
  have HR := hide hr
  have p1 : id1.size ≤ maxLen := by unfold maxLen; omega
  have p2 : id2.size ≤ maxLen := by unfold maxLen; omega
  have q1 : id1.size ≤ 1048576 := by omega
  have q2 : id2.size ≤ 1048576 := by omega
  obtain ⟨B, hB⟩ : ∃ B, Hid (w.heap.size = B) := ⟨_, rfl⟩
  rw [hB.out]
  go_enter Try.func4, Try.ntmps4
  go_wp2_with fail
  refine (bytes_any n1 n2 m id1 id2 p1 p2 _).mono ?_
  rintro e w ⟨⟨b, rfl⟩, rfl⟩
  cases b
  · go_wp2
    go_ret
    exact ⟨rfl, Below.refl _ _⟩
  go_wp2_with fail
  refine (new_c n1 B _ h1 hB.out).mono ?_
  rintro e w1 ⟨rfl, hf1⟩
  have sz1 : B ≤ w1.heap.size := by have := hf1.2.2.2.size; rw [hB.out] at this; exact this
  have HF1 := hide hf1
  clear hf1
  go_wp2_with fail
  refine (zzemp_new B (B + 1 + 1) n1 0 0 (.map []) id1 w1 sz1 q1 (by omega) (hold_fresh HF1.out) (has_none id1)).mono ?_
  rintro e w2 ⟨rfl, hh, hb⟩
  have HB2 : Hid (Both B (B + 1 + 1) n1 0 id1 w w2) := ⟨hh, HF1.out.2.2.2.trans hb, Nat.le_trans sz1 hb.size⟩
  clear hh hb sz1 HF1
  clear hr
  go_wp2_with fail
  go_loopw [12] (fun i wr => ∃ k : Nat, k ≤ m ∧ i = .int .i64 k ∧ Both B (B + 1 + 1) n1 k id1 w wr) (fun i _ => m - (intOf i).toNat)
  case atStart => exact ⟨0, Nat.zero_le _, rfl, HB2.out⟩
  case round =>
    obtain ⟨k, hk, rfl, hf⟩ := hrel
    have HF := hide hf
    clear hf HB2
    by_cases hlt : k < m
    · go_wp2_with fail
      refine (zzchunk_c B (B + 1 + 1) n1 k 1 (D1 id1) wr HF.out.2.2 (by omega) HF.out.1).mono ?_
      rintro e w3 ⟨rfl, hh, hb⟩
      have HB3 : Hid (Both B (B + 1 + 1) n1 (k + 1) id1 w w3) := ⟨hh, HF.out.2.1.trans hb, Nat.le_trans HF.out.2.2 hb.size⟩
      clear hh hb
      go_wp2
      go_roundw
      case rel => exact ⟨k + 1, by omega, by simp, HB3.out⟩
      case measure => simp [intOf]; omega
    · obtain rfl : k = m := by omega
      obtain ⟨B2, hB2⟩ : ∃ B2, Hid (wr.heap.size = B2) := ⟨_, rfl⟩
      go_wp2_with fail
      refine (new_c n2 B2 _ h2 hB2.out).mono ?_
      rintro e w3 ⟨rfl, hf3⟩
      have sz3 : B2 ≤ w3.heap.size := by have := hf3.2.2.2.size; rw [hB2.out] at this; exact this
      have HF3 := hide hf3
      have HH3 := hide (hold_fresh hf3)
      clear hf3
      go_wp2_with fail
      refine (count_h HH3.out).mono ?_
      rintro e w3 ⟨rfl, rfl⟩
      go_wp2_with fail
      refine (zzemp_new B2 (B2 + 1 + 1) n2 0 0 (.map []) id2 w3 sz3 q2 (by omega) HH3.out (has_none id2)).mono ?_
      rintro e w4 ⟨rfl, hh, hb⟩
      have sz4 : B2 ≤ w4.heap.size := Nat.le_trans sz3 hb.size
      have HH4 := hide hh
      have HB4 := hide hb
      clear hh hb sz3
      go_wp2_with fail
      refine (zzchunk_c B2 (B2 + 1 + 1) n2 0 1 _ w4 sz4 (by omega) HH4.out).mono ?_
      rintro e w5 ⟨rfl, _, hb⟩
      have HB5 : Hid (Both B (B + 1 + 1) n1 k id1 w w5) := HF.out.next hB2.out ((HF3.out.2.2.2.trans HB4.out).trans hb)
      clear hb HH4 HB4 sz4 HF3 HH3 HF hB2
      rcases HR.out with ⟨hid, hr0⟩ | ⟨hid, hr0⟩
      · subst hid
        subst hr0
        go_wp2_with fail
        refine (last_emp B (B + 1 + 1) n1 k id1 id1 w w5 q2 HB5.out 0 (.inl ⟨rfl, rfl⟩)).mono ?_
        rintro e w6 ⟨rfl, hp⟩
        have HP := hide hp
        clear hp
        go_wp2_with fail
        refine (last_chunk B (B + 1 + 1) n1 k w w6 (by omega) HP.out).mono ?_
        rintro e w7 ⟨rfl, hp⟩
        have HP7 := hide hp
        clear hp
        go_wp2_with fail
        refine (last_count B (B + 1 + 1) n1 (k + 1) w w7 HP7.out).mono ?_
        rintro e w7 ⟨rfl, rfl⟩
        go_wp2
        go_ret
        exact ⟨rfl, HP7.out.2.1⟩
      · subst hr0
        have HI := hide hid
        have hbq : (id1.toList == id2.toList) = false := by simpa using hid
        go_wp2_with fail
        all_goals try (exfalso; exact HI.out (eq_of_beq (by assumption)))
        refine (last_emp B (B + 1 + 1) n1 k id1 id2 w w5 q2 HB5.out 1 (.inr ⟨HI.out, rfl⟩)).mono ?_
        rintro e w6 ⟨rfl, hp⟩
        have HP := hide hp
        clear hp
        go_wp2_with fail
        refine (last_chunk B (B + 1 + 1) n1 k w w6 (by omega) HP.out).mono ?_
        rintro e w7 ⟨rfl, hp⟩
        have HP7 := hide hp
        clear hp
        go_wp2_with fail
        refine (last_count B (B + 1 + 1) n1 (k + 1) w w7 HP7.out).mono ?_
        rintro e w7 ⟨rfl, rfl⟩
        go_wp2
        go_ret
        exact ⟨rfl, HP7.out.2.1⟩
theorem wf_bd {n : Int} (h : (Lit.int .i64 n).wf = true) : -9223372036854775808 ≤ n ∧ n ≤ 9223372036854775807 := by
  have e1 : IntKind.i64.min = -9223372036854775808 := rfl
  have e2 : IntKind.i64.max = 9223372036854775807 := rfl
  simp [Lit.wf, e1, e2] at h
  exact h
theorem walk (a0 a1 a2 : Int) (a3 a4 : ByteArray) (w3 : a3.size ≤ maxLen) (w4 : a4.size ≤ maxLen) (w : World) :
    Calls Try.prog 4 #[.int .i64 a0, .int .i64 a1, .int .i64 a2, .string a3, .string a4] w fun e w' => e = .returned (.bool true) ∧ Below w.heap.size w w' := by
  by_cases h : Outside a0 a1 a2 a3 a4
  · refine (law4_out a0 a1 a2 a3 a4 w3 w4 w h).mono ?_
    rintro e w' ⟨rfl, rfl⟩
    exact ⟨rfl, Below.refl _ _⟩
  · unfold Outside at h
    obtain ⟨n1, rfl⟩ : ∃ n : Nat, a0 = n := ⟨a0.toNat, by omega⟩
    obtain ⟨n2, rfl⟩ : ∃ n : Nat, a1 = n := ⟨a1.toNat, by omega⟩
    obtain ⟨m, rfl⟩ : ∃ n : Nat, a2 = n := ⟨a2.toNat, by omega⟩
    have key : ∀ r, ((a3 = a4 ∧ r = 0) ∨ (¬ a3.toList = a4.toList ∧ r = 1)) → Calls Try.prog 4 #[.int .i64 n1, .int .i64 n2, .int .i64 m, .string a3, .string a4] w fun e w' => e = .returned (.bool true) ∧ Below w.heap.size w w' :=
      fun r hr => law4_in n1 n2 m a3 a4 w (by omega) (by omega) (by omega) (by omega) (by omega) r hr
    by_cases he : a3 = a4
    · exact key 0 (.inl ⟨he, rfl⟩)
    · refine key 1 (.inr ⟨fun e => he ?_, rfl⟩)
      have e2 : a3.data.toList = a4.data.toList := by rw [← ByteArray.toList_eq, ← ByteArray.toList_eq]; exact e
      obtain ⟨⟨x⟩⟩ := a3
      obtain ⟨⟨y⟩⟩ := a4
      simp at e2
      simp [e2]
end Go.Proofs.Qxb6613686a
