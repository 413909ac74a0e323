/-
  THE TOLD AND TIED CARD OF 'FnStampTextsOrderAsTheirValues', PROVED.
-/
import Derived.Test.Qxb6613619aFmtFrame
import Derived.Test.Qxb6613619aFmtLaw5
namespace Go.Proofs.Qxb6613619aFmt.StampOrder
open Go.ChangeShapes Go.WideShapes Go.ChangeAt Go.RowKit Go.Kit
open Go.Extern.Stop Go.Stop Go.Extern

/-- The door's own heap meets the condition. -/
theorem door_met (os : Os) (args : Array Value) : laidMetH Tryf.prog Rows.fnStampTextsOrderAsTheirValuesRow.laid ((World.doorLaid Tryf.prog 62 os).forCall (fun _ _ => 0) ⟨#[], args, []⟩).memory :=
  laidMetH_of_parts3 (fuel := 8) (laidMet_of_run' 8 (by kernel_rfl) (by kernel_rfl)) (by kernel_rfl) (by kernel_rfl)

theorem law (F : Interp) (p1 p2 : Option Addr) (l1 c1 l2 c2 : Nat) (a : Addr) (s : ByteArray) (w : World) (hF : F.answers w.tape) (h1 : l1 ≤ maxLen) (h2 : l2 ≤ maxLen) (ht : l1 ≤ 65536 → ∃ x, TextAt w p1 l1 c1 x) (hu : l2 ≤ 65536 → ∃ x, TextAt w p2 l2 c2 x) (hs : SentAt w 1 a s) :
    Calls Tryf.prog 5 #[.slice p1 l1 c1, .slice p2 l2 c2] w (LawOut w) := by
  by_cases g1 : l1 ≤ 65536
  · by_cases g2 : l2 ≤ 65536
    · obtain ⟨x, hx⟩ := ht g1
      obtain ⟨y, hy⟩ := hu g2
      exact law5_main F p1 p2 l1 c1 l2 c2 x y a s w hF hx hy hs
    · exact law5_great p1 p2 l1 c1 l2 c2 w h1 h2 (Or.inr (by omega))
  · exact law5_great p1 p2 l1 c1 l2 c2 w h1 h2 (Or.inl (by omega))

set_option maxRecDepth 100000 in
theorem lifted (os : Os) (started : os.Started) (H : Type) (enc : TypeId × Value → H) :
    ReturnsInTold none {} Tryf.checked os 5 .any Input.okWide
      ((OpenSpec.ofChange Rows.fnStampTextsOrderAsTheirValuesSpec).preRow enc Tryf.prog Tryf.f5 Rows.fnStampTextsOrderAsTheirValuesRow.domain false Rows.fnStampTextsOrderAsTheirValuesRow.laid)
      (fun F => ((OpenSpec.ofChange Rows.fnStampTextsOrderAsTheirValuesSpec).at F).post enc Tryf.prog Tryf.f5 false true false false) (aloneAtReturn Tryf.prog) nothingAlways := by
  refine returnsInTold_of_row (C := Tryf.checked) (s := OpenSpec.ofChange Rows.fnStampTextsOrderAsTheirValuesSpec) (by kernel_rfl) own started (by kernel_rfl) Tryf.func5
    (OpenSpec.witness_stopped_atRef (enc := enc) (C := Tryf.checked) false (World.doorLaid Tryf.prog 62 os) #[.slice none 0 0, .slice none 0 0] rfl (by kernel_rfl) (by kernel_rfl) (by kernel_rfl)
      (OpenSpec.preRow_of_B rfl 8 (by kernel_rfl) (by kernel_rfl) (door_met os _))) ?_
  intro F W base args ds gs before _ hF hval0 hW _ _ _ hL _
  have hval : ∀ (j : Nat) t v, Tryf.f5.params[j]? = some t → args[j]? = some v → Value.okWide Tryf.prog W .any base t v := hval0
  have hW' := hW
  obtain ⟨p, q, hA0, hV0, rfl, _, _⟩ := hW
  have hA : DataW.TrodAll enc Tryf.prog W 0 (fun _ => true) true Tryf.f5.params.toList args.toList ds p := hA0
  rw [Tryf.params5] at hA hval
  obtain ⟨v0, vs0, d0, ds0, p0, q0, hargs, rfl, rfl, h0, r0⟩ := trodAll_cons hA
  obtain ⟨v1, vs1, d1, ds1, p1, q1, rfl, rfl, rfl, h1, r1⟩ := trodAll_cons r0
  obtain ⟨rfl, rfl, rfl⟩ := trodAll_nil r1
  obtain rfl : args = #[v0, v1] := by cases args; simp_all
  obtain ⟨a0, l0, c0, rfl⟩ := okWide_slice Tryf.underlying22 (hval 0 22 v0 rfl rfl)
  obtain ⟨a1, l1, c1, rfl⟩ := okWide_slice Tryf.underlying22 (hval 1 22 v1 rfl rfl)
  have lt0 : ∀ x ∈ p0, x.block < W.heap.size := by obtain ⟨m, hm⟩ := h0; exact DataW.trod_lt m _ _ _ hm
  have lt1 : ∀ x ∈ p1, x.block < W.heap.size := by obtain ⟨m, hm⟩ := h1; exact DataW.trod_lt m _ _ _ hm
  obtain ⟨hm0, ht0⟩ := textAt_of h0
  obtain ⟨hm1, ht1⟩ := textAt_of h1
  -- what 'laid' gives
  have hL' := hL
  rw [MakeChecks.laidMetH_plain _ _ _ (by kernel_rfl)] at hL'
  obtain ⟨a, s, hv, hc, _, _⟩ := laid_sentinel (g := 1) hL' (by kernel_rfl) (by kernel_rfl) Tryf.underlying28 row75 Tryf.underlying75 Tryf.underlying77 rfl rfl Tryf.underlying9 (by kernel_rfl) (by kernel_rfl)
  have hg1 : W.cell? ⟨1, 0, none⟩ = some (.iface 75 (.pointer (some a))) := by simpa using World.var?_cell (by kernel_rfl) hv 0
  have hV : DataW.TrodVars enc Tryf.prog W (fun _ => true) Rows.fnStampTextsOrderAsTheirValuesSpec.vars gs q := hV0
  obtain ⟨rfl, rfl⟩ := hV.unique (vars_read1 enc (g := 1) (by kernel_rfl) (by kernel_rfl) Tryf.underlying28 hv trivial _)
  clear hA0 hV0 hval0
  refine (law F.told a0 a1 l0 c0 l1 c1 a s W hF hm0 hm1 ht0 ht1 ⟨hg1, hc⟩).mono fun e W' ⟨he, bel⟩ => ?_
  subst he
  exact ⟨_, rfl, _, _, _, [], _, [.cell 1 0], hW', trodAll_mk1 (shut_bool Tryf.underlying4 _),
    (trodAll_cons_mk (Below.trod laidOut (by kernel_rfl) (of_decide_eq_true (by kernel_rfl)) h0 bel lt0) (trodAll_cons_mk (Below.trod laidOut (by kernel_rfl) (of_decide_eq_true (by kernel_rfl)) h1 bel lt1) trodAll_mk0)),
    vars_read1 enc (by kernel_rfl) (by kernel_rfl) Tryf.underlying28 (var?_below (g := 1) bel (by kernel_rfl) (World.block_lt_of_cell? _ _ hg1) hv) trivial _, bel.frame _, fun h => by cases h⟩

/-- ████ THE STATEMENT ████ -/
theorem proved : Rows.FnStampTextsOrderAsTheirValuesToldSaid :=
  Claim7.holds_of_told_tied_any_at .later 5 Tryf.f5 "fmt.errorf" [] [] _ _ _ _ _ (by kernel_rfl) rfl rfl rfl laidOut (by kernel_rfl) rfl ⟨rfl, rfl, rfl, rfl, rfl, rfl, rfl⟩ rfl rfl (by kernel_rfl) (by kernel_rfl) Tryf.func5 (by kernel_rfl)
    (of_decide_eq_true (by kernel_rfl)) (of_decide_eq_true (by kernel_rfl)) stops.symm rfl stopKnobs.symm (by kernel_rfl)
    (by kernel_rfl) (by kernel_rfl) (by kernel_rfl) (by kernel_rfl) (by kernel_rfl) (by kernel_rfl) (by kernel_rfl) (by kernel_rfl) (by kernel_rfl) rfl (by kernel_rfl) rfl rfl
    rfl rfl
    rfl (by kernel_rfl) (by kernel_rfl) (by kernel_rfl) (by decide) (by kernel_rfl) fnStampTextsOrderAsTheirValues_row_tie
    (OpenClaim.moreEntering_of (by kernel_rfl) (by kernel_rfl) (by kernel_rfl) (by kernel_rfl) (by kernel_rfl) (by kernel_rfl) (by kernel_rfl) (by kernel_rfl) (by kernel_rfl) (by kernel_rfl))
    ⟨_, WideRow.started_initial, quiet _⟩
    (fun os started _ H enc _ => lifted os started H enc)
#print axioms proved
end Go.Proofs.Qxb6613619aFmt.StampOrder
