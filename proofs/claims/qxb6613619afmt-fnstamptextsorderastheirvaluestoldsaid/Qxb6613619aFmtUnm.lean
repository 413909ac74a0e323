/-
  THE WALKS OF (*Stamp).set AND (*Stamp).UnmarshalText.
-/
import Derived.Test.Qxb6613619aFmtParse
namespace Go.Proofs.Qxb6613619aFmt
open Go.RowKit Go.Extern.Stop Go.Stop Go.Extern

/-- A Stamp in memory: three cells of a block, that may be written. -/
structure StampAt (w : World) (c : Nat) (u v r : Int) : Prop where
  lt : c < w.heap.size
  c0 : w.cell? ⟨c, 0, none⟩ = some (.int .i64 u)
  c1 : w.cell? ⟨c, 1, none⟩ = some (.int .i64 v)
  c2 : w.cell? ⟨c, 2, none⟩ = some (.int .i64 r)
  f0 : w.frozen? ⟨c, 0, none⟩ = false
  f1 : w.frozen? ⟨c, 1, none⟩ = false
  f2 : w.frozen? ⟨c, 2, none⟩ = false
theorem StampAt.later {w w' : World} {c : Nat} {u v r : Int} (h : StampAt w c u v r) (hb : Below w.heap.size w w') : StampAt w' c u v r := by
  obtain ⟨hc, hf⟩ := bcell hb
  exact ⟨Nat.lt_of_lt_of_le h.lt hb.size, by rw [hc _ _ h.lt]; exact h.c0, by rw [hc _ _ h.lt]; exact h.c1, by rw [hc _ _ h.lt]; exact h.c2, by rw [hf _ _ h.lt]; exact h.f0, by rw [hf _ _ h.lt]; exact h.f1, by rw [hf _ _ h.lt]; exact h.f2⟩

theorem set_err (c : Nat) (u v r : Int) (q : Addr) (w : World) :
    Calls Tryf.prog 26 #[.pointer (some ⟨c, 0, none⟩), .agg #[.int .i64 u, .int .i64 v, .int .i64 r], .iface 68 (.pointer (some q))] w fun e w' => e = .returned (.iface 68 (.pointer (some q))) ∧ Below w.heap.size w w' := by
  go_enter Tryf.func26, Tryf.ntmps26
  go_wp2
  go_ret
  exact ⟨rfl, by go_grown⟩

/-- Of the blocks that were there block c alone may have turned. -/
structure OnlyAt (c : Nat) (w w' : World) : Prop where
  os : w'.os = w.os
  tape : w'.tape = w.tape
  output : w'.output = w.output
  size : w.heap.size ≤ w'.heap.size
  block : ∀ k, k < w.heap.size → k ≠ c → w'.heap[k]? = w.heap[k]?
theorem OnlyAt.below {c B : Nat} {w w' : World} (h : OnlyAt c w w') (hB : B ≤ c) (hs : B ≤ w.heap.size) : Below B w w' :=
  ⟨h.os, h.tape, h.output, h.size, fun k hk => h.block k (by omega) (by omega)⟩
theorem OnlyAt.of_below {c : Nat} {w w' : World} (h : Below w.heap.size w w') : OnlyAt c w w' := ⟨h.os, h.tape, h.output, h.size, fun k hk _ => h.block k hk⟩
theorem OnlyAt.trans {c : Nat} {a b d : World} (h : OnlyAt c a b) (k : OnlyAt c b d) : OnlyAt c a d :=
  ⟨k.os.trans h.os, k.tape.trans h.tape, k.output.trans h.output, Nat.le_trans h.size k.size, fun i hi hn => (k.block i (Nat.lt_of_lt_of_le hi h.size) hn).trans (h.block i hi hn)⟩
theorem OnlyAt.cell {c : Nat} {w w' : World} (h : OnlyAt c w w') {p : Addr} (hp : p.block < w.heap.size) (hn : p.block ≠ c) : w'.cell? p = w.cell? p := by
  simp only [World.cell?, h.block _ hp hn]
theorem OnlyAt.setCell {c : Nat} {w w' : World} (h : OnlyAt c w w') (o : Nat) (u : Value) : OnlyAt c w (w'.setCell ⟨c, o, none⟩ u) :=
  ⟨h.os, h.tape, h.output, by simpa using h.size, fun k hk hn => (Below.heap_setCell _ _ _ _ hn).trans (h.block k hk hn)⟩
theorem OnlyAt.refl (c : Nat) (w : World) : OnlyAt c w w := ⟨rfl, rfl, rfl, Nat.le_refl _, fun _ _ _ => rfl⟩
theorem OnlyAt.alloc {c : Nat} {w w' : World} (h : OnlyAt c w w') (o : Obj) : OnlyAt c w (w'.alloc o) :=
  h.trans (OnlyAt.of_below ((Below.refl _ w').alloc (Nat.le_refl _) o))

theorem StampAt.set {w : World} {c : Nat} {u0 v0 r0 : Int} (h : StampAt w c u0 v0 r0) (u v r : Int) : StampAt (((w.setCell ⟨c, 0, none⟩ (.int .i64 u)).setCell ⟨c, 1, none⟩ (.int .i64 v)).setCell ⟨c, 2, none⟩ (.int .i64 r)) c u v r := by
  obtain ⟨lt, c0, c1, c2, f0, f1, f2⟩ := h
  constructor <;> (first | (simpa using lt) | go_simp)

theorem set_nil (c : Nat) (u v r u0 v0 r0 : Int) (w : World) (hs : StampAt w c u0 v0 r0) :
    Calls Tryf.prog 26 #[.pointer (some ⟨c, 0, none⟩), .agg #[.int .i64 u, .int .i64 v, .int .i64 r], .nilIface] w fun e w' => e = .returned .nilIface ∧ StampAt w' c u v r ∧ OnlyAt c w w' := by
  have hs' := hs.set u v r
  obtain ⟨lt, c0, c1, c2, f0, f1, f2⟩ := hs
  go_enter Tryf.func26, Tryf.ntmps26
  go_wp2
  go_ret
  exact ⟨rfl, hs'.later ((Below.refl _ _).alloc (Nat.le_refl _) _), ((((OnlyAt.refl c w).setCell _ _).setCell _ _).setCell _ _).alloc _⟩

/-- What reading a text into a Stamp leaves. -/
def UnmOut (len : Nat) (x : Nat → Int) (c : Nat) (u v r : Int) (w : World) (e : Ending) (w' : World) : Prop :=
  ((decide (len = 36) && Cal.stampB x) = true ∧ e = .returned .nilIface ∧ StampAt w' c (Cal.msOf x) (Cal.hexV x 25 4) (Cal.hexV x 30 6) ∧ OnlyAt c w w') ∨
  ((decide (len = 36) && Cal.stampB x) = false ∧ (∃ q, e = .returned (.iface 68 (.pointer (some q)))) ∧ StampAt w' c u v r ∧ OnlyAt c w w')

theorem unm_c (F : Interp) (p : Option Addr) (len cap : Nat) (x : Nat → Int) (a : Addr) (s : ByteArray) (c : Nat) (u v r : Int) (w : World) (hF : F.answers w.tape) (ht : TextAt w p len cap x) (hs : SentAt w 1 a s) (hc : StampAt w c u v r) :
    Calls Tryf.prog 19 #[.pointer (some ⟨c, 0, none⟩), .slice p len cap] w (UnmOut len x c u v r w) := by
  have HF : Hid (F.answers w.tape) := hF
  clear hF
  go_enter Tryf.func19, Tryf.ntmps19
  go_wp2_with fail
  refine (parse_c F p len cap x a s w HF.out ht hs).mono ?_
  rintro e w1 (⟨hb, rfl, hw⟩ | ⟨hb, ⟨q, rfl⟩, hw⟩)
  · have HB : Hid ((decide (len = 36) && Cal.stampB x) = true) := hb
    clear hb
    go_wp2_with fail
    refine (set_nil c _ _ _ u v r w1 (hc.later hw)).mono ?_
    rintro e w2 ⟨rfl, h1, h2⟩
    go_wp2
    go_ret
    exact Or.inl ⟨HB.out, rfl, h1, (OnlyAt.of_below hw).trans h2⟩
  · have HB : Hid ((decide (len = 36) && Cal.stampB x) = false) := hb
    clear hb
    go_wp2_with fail
    refine (set_err c _ _ _ q w1).mono ?_
    rintro e w2 ⟨rfl, h2⟩
    go_wp2
    go_ret
    exact Or.inr ⟨HB.out, ⟨q, rfl⟩, hc.later (hw.trans (h2.mono hw.size)), OnlyAt.of_below (hw.trans (h2.mono hw.size))⟩
end Go.Proofs.Qxb6613619aFmt
