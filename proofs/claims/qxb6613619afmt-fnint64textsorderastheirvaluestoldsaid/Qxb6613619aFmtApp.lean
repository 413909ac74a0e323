/-
  THE WALKS OF (Int64).AppendText AND (Int64).MarshalText: strconv.AppendInt by the shelf's contract, laid at this dump.
-/
import Derived.Test.Qxb6613619aFmtI64
import Derived.Test.Qxb6613619aFmtShelf
import Derived.Test.Qxb6613619aFmtNum
import Derived.Test.Qxb6613619aFmtRows
namespace Go.Proofs.Qxb6613619aFmt
open Go.RowKit Go.Extern.Stop Go.Stop Go.Extern
open Go.Lib (nDigits decDigits)

/-- The table of powers of ten lies as its initialiser lays it. -/
def PowTab (w : World) : Prop := Lib.TabIs Tryf.prog w (Rows.fnInt64TextsOrderAsTheirValuesRow.named.getD 1 Tryf.f3.name) .u64 Lib.pow10Tab
/-- The sentinel ErrNotInt64. -/
structure Sent0 (w : World) (a : Addr) (s : ByteArray) : Prop where
  var : w.cell? ⟨0, 0, none⟩ = some (.iface 75 (.pointer (some a)))
  text : w.cell? a = some (.string s)
theorem Sent0.later {w w' : World} {a : Addr} {s : ByteArray} (h : Sent0 w a s) (hb : Below w.heap.size w w') : Sent0 w' a s :=
  ⟨by rw [hb.cell (p := ⟨0, 0, none⟩) (World.block_lt_of_cell? _ _ h.var)]; exact h.var, by rw [hb.cell (World.block_lt_of_cell? _ _ h.text)]; exact h.text⟩
theorem PowTab.later {w w' : World} (h : PowTab w) (hb : Below w.heap.size w w') : PowTab w' := (Lib.tabBelow_of_tabIs h) w' hb

/-- A row of bytes in memory. -/
def Bytes (w : World) (b o n : Nat) (x : Nat → Int) : Prop := ∀ k, k < n → w.cell? ⟨b, o + k, none⟩ = some (.int .u8 (x k))
theorem Bytes.later {w w' : World} {B b o n : Nat} {x : Nat → Int} (h : Bytes w b o n x) (hlt : b < B) (hb : Below B w w') : Bytes w' b o n x :=
  fun k hk => by rw [hb.cell (p := ⟨b, o + k, none⟩) hlt]; exact h k hk

/-- The cells of an owned row of bytes. -/
theorem bytes_of_own {w : World} {B : Nat} {v : Value} {n : Nat} {l : List UInt8} (h : w.ownsRow B 5 1 v n (Lib.byteCells l)) (hn : 0 < n) :
    ∃ g cap, v = .slice (some ⟨g, 0, none⟩) n cap ∧ B ≤ g ∧ g < w.heap.size ∧ n ≤ cap ∧ cap ≤ maxLen ∧ Bytes w g 0 n (fun k => ((l.getD k 0).toNat : Int)) := by
  obtain ⟨hl, h⟩ := h
  rcases h with ⟨_, h0⟩ | ⟨g, cap, cur, rfl, hB, hg, h1, h2, h3, h4⟩
  · omega
  · have hlt : g < w.heap.size := by
      rcases Nat.lt_or_ge g w.heap.size with q | q
      · exact q
      · rw [Array.getElem?_eq_none q] at hg; cases hg
    refine ⟨g, cap, rfl, hB, hlt, h1, h2, fun k hk => ?_⟩
    have hk1 : k < (Lib.byteCells l).length := by omega
    have e : cur[k]? = (Lib.byteCells l)[k]? := by
      rw [← h4, List.getElem?_take_of_lt (by omega)]; simp
    have hkl : k < l.length := by rw [Lib.byteCells_length] at hk1; exact hk1
    simp only [World.cell?, hg, Nat.zero_add]
    rw [e]
    simp [Lib.byteCells, List.getD_eq_getElem?_getD, List.getElem?_eq_getElem hkl]

theorem appendInt (B n : Nat) (i : Int) (h0 : -9223372036854775808 ≤ i) (h1 : i ≤ 9223372036854775807) (sv : Value) (xs : List Value) (w : World) (hown : w.ownsRow B 5 1 sv n xs) (hBw : B ≤ w.heap.size) (hlim : n + 21 ≤ 140737488355328)
    (htab : Lib.TabBelow Tryf.prog B w (Rows.fnInt64TextsOrderAsTheirValuesRow.named.getD 1 Tryf.f3.name) .u64 Lib.pow10Tab) :
    Calls Tryf.prog 25 #[sv, .int .i64 i, .int .i64 10] w fun e w' => ∃ v', e = .returned v' ∧ w'.ownsRow B 5 1 v' (n + (Lib.itoa i).length) (xs ++ Lib.byteCells (Lib.itoa i)) ∧ Below B w w' ∧ Lib.OthersKept 5 none w w' :=
  Any.strconv_AppendInt_10 Tryf.laysM176 B n i h0 h1 sv xs w hown hBw hlim htab

/-- strconv.AppendInt onto nil, at a number that is not negative. -/
def NumOut (u : Nat) (w : World) (e : Ending) (w' : World) : Prop :=
  ∃ g cap, e = .returned (.slice (some ⟨g, 0, none⟩) (nDigits u) cap) ∧ w.heap.size ≤ g ∧ g < w'.heap.size ∧ nDigits u ≤ cap ∧ Bytes w' g 0 (nDigits u) (Cal.dx u) ∧ Below w.heap.size w w'
theorem appendInt_nil (i : Int) (h0 : 0 ≤ i) (h1 : i ≤ 9223372036854775807) (w : World) (ht : PowTab w) : Calls Tryf.prog 25 #[.slice none 0 0, .int .i64 i, .int .i64 10] w (NumOut i.toNat w) := by
  have hi : Lib.itoa i = decDigits i.toNat := by unfold Lib.itoa; rw [if_neg (by omega)]
  refine (appendInt w.heap.size 0 i (by omega) h1 (.slice none 0 0) [] w ⟨rfl, Or.inl ⟨rfl, rfl⟩⟩ (Nat.le_refl _) (by omega) (Lib.tabBelow_of_tabIs ht)).mono ?_
  rintro e w' ⟨v', rfl, hown, hb, _⟩
  rw [hi, Lib.decDigits_length, Nat.zero_add, List.nil_append] at hown
  obtain ⟨g, cap, rfl, hB, hlt, hcap, _, hbytes⟩ := bytes_of_own hown (Lib.nDigits_pos _)
  exact ⟨g, cap, rfl, hB, hlt, hcap, hbytes, hb⟩

/-- A value that is not held: what came in comes back, with an error. -/
def AppNo (p : Option Addr) (len cap : Nat) (w : World) (e : Ending) (w' : World) : Prop := (∃ q, e = .returned (.tuple #[.slice p len cap, .iface 68 (.pointer (some q))])) ∧ Below w.heap.size w w'
theorem app_no (F : Interp) (a : Addr) (s : ByteArray) (ms c n : Int) (p : Option Addr) (len cap : Nat) (w : World) (hF : F.answers w.tape) (hs : Sent0 w a s) (b0 : -9223372036854775808 ≤ ms) (b1 : ms ≤ 9223372036854775807) (h : ¬ Held ms c n) :
    Calls Tryf.prog 10 #[.agg #[.int .i64 ms, .int .i64 c, .int .i64 n], .slice p len cap] w (AppNo p len cap w) := by
  have HF : Hid (F.answers w.tape) := hF
  clear hF
  have hb0 := (Below.refl w.heap.size w).alloc (Nat.le_refl _) (.cells #[.int .i64 ms, .int .i64 c, .int .i64 n] 26)
  have hs0 := hs.later hb0
  have HH : Hid (¬ Held ms c n) := h
  clear h
  go_enter Tryf.func10, Tryf.ntmps10
  go_wp2_with fail
  refine (int64_no F a s ms c n _ (by exact HF.out) hs0.var hs0.text b0 b1 HH.out).mono ?_
  rintro e w' ⟨⟨q, rfl⟩, hb⟩
  go_wp2
  go_ret2
  exact ⟨⟨q, rfl⟩, hb0.trans (hb.mono (by simp))⟩

/-- A value that is held, onto nil: its numeral. -/
def AppYes (u : Nat) (w : World) (e : Ending) (w' : World) : Prop :=
  ∃ g cap, e = .returned (.tuple #[.slice (some ⟨g, 0, none⟩) (nDigits u) cap, .nilIface]) ∧ w.heap.size ≤ g ∧ g < w'.heap.size ∧ nDigits u ≤ cap ∧ Bytes w' g 0 (nDigits u) (Cal.dx u) ∧ Below w.heap.size w w'
theorem app_yes (ms c n : Int) (u : Nat) (w : World) (ht : PowTab w) (h : Held ms c n) (HU : Hid ((form64 ms c n).toNat = u)) :
    Calls Tryf.prog 10 #[.agg #[.int .i64 ms, .int .i64 c, .int .i64 n], .slice none 0 0] w (AppYes u w) := by
  have hb0 := (Below.refl w.heap.size w).alloc (Nat.le_refl _) (.cells #[.int .i64 ms, .int .i64 c, .int .i64 n] 26)
  have hf := form64_bd ms c n h
  have HH : Hid (Held ms c n) := h
  clear h
  have HT : Hid (PowTab w) := ht
  clear ht
  go_enter Tryf.func10, Tryf.ntmps10
  go_wp2_with fail
  refine (int64_yes ms c n _ HH.out).mono ?_
  rintro e w1 ⟨rfl, hb⟩
  have HB : Hid (Below w.heap.size w w1) := hb0.trans (hb.mono (by simp))
  have HT1 : Hid (PowTab w1) := HT.out.later HB.out
  clear hb
  obtain ⟨f, HFm⟩ : ∃ v, Hid (form64 ms c n = v) := ⟨_, rfl⟩
  rw [HFm.out] at hf ⊢
  have HA : Hid (Calls Tryf.prog 25 #[.slice none 0 0, .int .i64 f, .int .i64 10] w1 (NumOut u w1)) := by
    have := appendInt_nil f hf.1 hf.2 w1 HT1.out
    rw [← HFm.out, HU.out] at this
    rw [← HFm.out]
    exact this
  go_wp2_with fail
  refine HA.out.mono ?_
  rintro e w2 ⟨g, cap, rfl, h1, h2, h3, h4, h5⟩
  have HBy : Hid (Bytes w2 g 0 (nDigits u) (Cal.dx u)) := h4
  clear h4
  generalize hn : nDigits u = nd at *
  go_wp2
  go_ret2
  have hsz := HB.out.size
  subst hn
  exact ⟨g, cap, rfl, by omega, h2, h3, HBy.out, HB.out.trans (h5.mono hsz)⟩

theorem marshal_no (F : Interp) (a : Addr) (s : ByteArray) (ms c n : Int) (w : World) (hF : F.answers w.tape) (hs : Sent0 w a s) (b0 : -9223372036854775808 ≤ ms) (b1 : ms ≤ 9223372036854775807) (h : ¬ Held ms c n) :
    Calls Tryf.prog 9 #[.agg #[.int .i64 ms, .int .i64 c, .int .i64 n]] w (AppNo none 0 0 w) := by
  have HF : Hid (F.answers w.tape) := hF
  clear hF
  have hb0 := (Below.refl w.heap.size w).alloc (Nat.le_refl _) (.cells #[.int .i64 ms, .int .i64 c, .int .i64 n] 26)
  have hs0 := hs.later hb0
  have HH : Hid (¬ Held ms c n) := h
  clear h
  go_enter Tryf.func9, Tryf.ntmps9
  go_wp2_with fail
  refine (app_no F a s ms c n none 0 0 _ (by exact HF.out) hs0 b0 b1 HH.out).mono ?_
  rintro e w' ⟨⟨q, rfl⟩, hb⟩
  go_wp2
  go_ret2
  exact ⟨⟨q, rfl⟩, hb0.trans (hb.mono (by simp))⟩
theorem marshal_yes (ms c n : Int) (u : Nat) (w : World) (ht : PowTab w) (h : Held ms c n) (HU : Hid ((form64 ms c n).toNat = u)) :
    Calls Tryf.prog 9 #[.agg #[.int .i64 ms, .int .i64 c, .int .i64 n]] w (AppYes u w) := by
  have hb0 := (Below.refl w.heap.size w).alloc (Nat.le_refl _) (.cells #[.int .i64 ms, .int .i64 c, .int .i64 n] 26)
  have HH : Hid (Held ms c n) := h
  clear h
  have HT : Hid (PowTab (w.alloc (.cells #[.int .i64 ms, .int .i64 c, .int .i64 n] 26))) := ht.later hb0
  clear ht
  go_enter Tryf.func9, Tryf.ntmps9
  go_wp2_with fail
  refine (app_yes ms c n u _ HT.out HH.out HU).mono ?_
  rintro e w2 ⟨g, cap, rfl, h1, h2, h3, h4, h5⟩
  have HBy : Hid (Bytes w2 g 0 (nDigits u) (Cal.dx u)) := h4
  clear h4
  generalize hn : nDigits u = nd at *
  go_wp2
  go_ret2
  subst hn
  simp only [World.size_alloc] at h1
  exact ⟨g, cap, rfl, by omega, h2, h3, HBy.out, hb0.trans (h5.mono (by simp))⟩
end Go.Proofs.Qxb6613619aFmt
