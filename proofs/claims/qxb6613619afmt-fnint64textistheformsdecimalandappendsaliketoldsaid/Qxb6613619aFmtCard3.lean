/-
  THE TOLD AND TIED CARD OF 'FnInt64TextIsTheFormsDecimalAndAppendsAlike', PROVED.
-/
import Derived.Test.Qxb6613619aFmtFrame2
import Derived.Test.Qxb6613619aFmtLaw3
namespace Go.Proofs.Qxb6613619aFmt.Int64Text
open Go.ChangeShapes Go.WideShapes Go.ChangeAt Go.RowKit Go.Kit
open Go.Extern.Stop Go.Stop Go.Extern N64

/-- The door's own heap meets the condition. -/
theorem door_met (os : Os) (args : Array Value) : laidMetH Tryf.prog Rows.fnInt64TextIsTheFormsDecimalAndAppendsAlikeRow.laid ((World.doorLaid Tryf.prog 62 os).forCall (fun _ _ => 0) ⟨#[], args, []⟩).memory :=
  laidMetH_of_parts3 (fuel := 8) (laidMet_of_run' 8 (by kernel_rfl) (by kernel_rfl)) (by kernel_rfl) (by kernel_rfl)

theorem wf_bd {n : Int} (h : (Lit.int .i64 n).wf = true) : -9223372036854775808 ≤ n ∧ n ≤ 9223372036854775807 := by
  have e1 : IntKind.i64.min = -9223372036854775808 := rfl
  have e2 : IntKind.i64.max = 9223372036854775807 := rfl
  simp [Lit.wf, e1, e2] at h
  exact h

/-- How the bytes that came in read. -/
theorem preAt_of {H : Type} {enc : TypeId × Value → H} {W : World} {sp : Nat → Bool} {held : Bool} {a : Option Addr} {len cap : Nat} {d : DataW H} {ps : List MemPlace}
    (h : DataW.Trod enc Tryf.prog W 0 sp held 22 (.slice a len cap) d ps) : len ≤ maxLen ∧ ∃ x, PreAt W a len x := by
  obtain ⟨fuel, hf⟩ := h
  rcases open_ints Tryf.underlying22 Tryf.underlying5 (by kernel_rfl) hf with ⟨hcs, _⟩ | ⟨y, l, c, zs, hcs, _, hl, hm, hz, _, hcell, hwz⟩
  · simp [Value.cells] at hcs
    obtain ⟨rfl, rfl, rfl⟩ := hcs
    exact ⟨Nat.zero_le _, fun _ => 0, Or.inl rfl⟩
  · simp [Value.cells] at hcs
    obtain ⟨rfl, rfl, rfl⟩ := hcs
    refine ⟨Nat.le_trans hl hm, fun k => zs.getD k 0, ?_⟩
    rcases Nat.eq_zero_or_pos len with h0 | h0
    · exact Or.inl h0
    · have hzl : len ≤ zs.length := by rw [hz]; split <;> omega
      obtain ⟨b, off, rfl, hc⟩ := ints_at hcell (by omega)
      exact Or.inr ⟨b, off, rfl, World.block_lt_of_cell? _ _ (hc 0 (by omega)), fun k hk => hc k (by omega)⟩
theorem law (F : Interp) (ms c nn : Int) (p : Option Addr) (n cap : Nat) (a : Addr) (s : ByteArray) (w : World) (hF : F.answers w.tape) (hs : Sent0 w a s) (ht : PowTab w) (b1 : -9223372036854775808 ≤ ms) (b1' : ms ≤ 9223372036854775807)
    (hm : n ≤ maxLen) (hp : ∃ x, PreAt w p n x) : Calls Tryf.prog 3 #[.int .i64 ms, .int .i64 c, .int .i64 nn, .slice p n cap] w (Law4Out w) := by
  obtain ⟨x, hx⟩ := hp
  by_cases h : n ≤ 65536
  · exact law3_main F ms c nn p n cap x a s w hF hs ht b1 b1' h hx
  · exact law3_great ms c nn p n cap w hm (by omega)

set_option maxRecDepth 100000 in
theorem lifted (os : Os) (started : os.Started) (H : Type) (enc : TypeId × Value → H) :
    ReturnsInTold none {} Tryf.checked os 3 .any Input.okWide
      ((OpenSpec.ofChange Rows.fnInt64TextIsTheFormsDecimalAndAppendsAlikeSpec).preRow enc Tryf.prog Tryf.f3 Rows.fnInt64TextIsTheFormsDecimalAndAppendsAlikeRow.domain false Rows.fnInt64TextIsTheFormsDecimalAndAppendsAlikeRow.laid)
      (fun F => ((OpenSpec.ofChange Rows.fnInt64TextIsTheFormsDecimalAndAppendsAlikeSpec).at F).post enc Tryf.prog Tryf.f3 false true false false) (aloneAtReturn Tryf.prog) nothingAlways := by
  refine returnsInTold_of_row (C := Tryf.checked) (s := OpenSpec.ofChange Rows.fnInt64TextIsTheFormsDecimalAndAppendsAlikeSpec) (by kernel_rfl) own started (by kernel_rfl) Tryf.func3
    (OpenSpec.witness_stopped_atRef (enc := enc) (C := Tryf.checked) false (World.doorLaid Tryf.prog 62 os) #[.int .i64 0, .int .i64 0, .int .i64 0, .slice none 0 0] rfl (by kernel_rfl) (by kernel_rfl) (by kernel_rfl)
      (OpenSpec.preRow_of_B rfl 8 (by kernel_rfl) (by kernel_rfl) (door_met os _))) ?_
  intro F W base args ds gs before _ hF hval0 hW _ _ _ hL _
  have hval : ∀ (j : Nat) t v, Tryf.f3.params[j]? = some t → args[j]? = some v → Value.okWide Tryf.prog W .any base t v := hval0
  have hW' := hW
  obtain ⟨p, q, hA0, hV0, rfl, _, _⟩ := hW
  have hA : DataW.TrodAll enc Tryf.prog W 0 (fun _ => true) true Tryf.f3.params.toList args.toList ds p := hA0
  rw [Tryf.params3] at hA hval
  obtain ⟨v0, vs0, d0, ds0, p0, q0, hargs, rfl, rfl, h0, r0⟩ := trodAll_cons hA
  obtain ⟨v1, vs1, d1, ds1, p1, q1, rfl, rfl, rfl, h1, r1⟩ := trodAll_cons r0
  obtain ⟨v2, vs2, d2, ds2, p2, q2, rfl, rfl, rfl, h2, r2⟩ := trodAll_cons r1
  obtain ⟨v3, vs3, d3, ds3, p3, q3, rfl, rfl, rfl, h3, r3⟩ := trodAll_cons r2
  obtain ⟨rfl, rfl, rfl⟩ := trodAll_nil r3
  obtain rfl : args = #[v0, v1, v2, v3] := by cases args; simp_all
  obtain ⟨a0, rfl, rfl, rfl, w0⟩ := open_int Tryf.underlying2 (hval 0 2 v0 rfl rfl) h0
  obtain ⟨a1, rfl, rfl, rfl, w1⟩ := open_int Tryf.underlying3 (hval 1 3 v1 rfl rfl) h1
  obtain ⟨a2, rfl, rfl, rfl, w2⟩ := open_int Tryf.underlying3 (hval 2 3 v2 rfl rfl) h2
  obtain ⟨a3, l3, c3, rfl⟩ := okWide_slice Tryf.underlying22 (hval 3 22 v3 rfl rfl)
  have lt3 : ∀ x ∈ p3, x.block < W.heap.size := by obtain ⟨m, hm⟩ := h3; exact DataW.trod_lt m _ _ _ hm
  obtain ⟨hm3, ht3⟩ := preAt_of h3
  obtain ⟨hpow, a, s, hv, hs⟩ := of_laid hL
  have hV : DataW.TrodVars enc Tryf.prog W (fun _ => true) Rows.fnInt64TextIsTheFormsDecimalAndAppendsAlikeSpec.vars gs q := hV0
  obtain ⟨rfl, rfl⟩ := hV.unique (vars_read1 enc (g := 0) (by kernel_rfl) (by kernel_rfl) Tryf.underlying28 hv trivial _)
  clear hA0 hV0 hval0
  refine (law F.told a0 a1 a2 a3 l3 c3 a s W hF hs hpow (wf_bd w0).1 (wf_bd w0).2 hm3 ht3).mono fun e W' ⟨he, bel⟩ => ?_
  subst he
  exact ⟨_, rfl, _, _, _, [], _, [.cell 0 0], hW', trodAll_mk1 (shut_bool Tryf.underlying4 _),
    (trodAll_cons_mk (shut_int Tryf.underlying2 w0) (trodAll_cons_mk (shut_int Tryf.underlying3 w1) (trodAll_cons_mk (shut_int Tryf.underlying3 w2) (trodAll_cons_mk (Below.trod laidOut (by kernel_rfl) (of_decide_eq_true (by kernel_rfl)) h3 bel lt3) trodAll_mk0)))),
    vars_read1 enc (by kernel_rfl) (by kernel_rfl) Tryf.underlying28 (var?_below (g := 0) bel (by kernel_rfl) (World.block_lt_of_cell? _ _ hs.var) hv) trivial _, bel.frame _, fun h => by cases h⟩

/-- ████ THE STATEMENT ████ -/
theorem proved : Rows.FnInt64TextIsTheFormsDecimalAndAppendsAlikeToldSaid :=
  Claim7.holds_of_told_tied_any_at .later 3 Tryf.f3 "fmt.errorf" [] [] _ _ _ _ _ (by kernel_rfl) rfl rfl rfl laidOut (by kernel_rfl) rfl ⟨rfl, rfl, rfl, rfl, rfl, rfl, rfl⟩ rfl rfl (by kernel_rfl) (by kernel_rfl) Tryf.func3 (by kernel_rfl)
    (of_decide_eq_true (by kernel_rfl)) (of_decide_eq_true (by kernel_rfl)) stops.symm rfl stopKnobs.symm (by kernel_rfl)
    (by kernel_rfl) (by kernel_rfl) (by kernel_rfl) (by kernel_rfl) (by kernel_rfl) (by kernel_rfl) (by kernel_rfl) (by kernel_rfl) (by kernel_rfl) rfl (by kernel_rfl) rfl rfl
    rfl rfl
    rfl (by kernel_rfl) (by kernel_rfl) (by kernel_rfl) (by decide) (by kernel_rfl) fnInt64TextIsTheFormsDecimalAndAppendsAlike_row_tie
    (OpenClaim.moreEntering_of (by kernel_rfl) (by kernel_rfl) (by kernel_rfl) (by kernel_rfl) (by kernel_rfl) (by kernel_rfl) (by kernel_rfl) (by kernel_rfl) (by kernel_rfl) (by kernel_rfl))
    ⟨_, WideRow.started_initial, quiet _⟩
    (fun os started _ H enc _ => lifted os started H enc)
#print axioms proved
end Go.Proofs.Qxb6613619aFmt.Int64Text
