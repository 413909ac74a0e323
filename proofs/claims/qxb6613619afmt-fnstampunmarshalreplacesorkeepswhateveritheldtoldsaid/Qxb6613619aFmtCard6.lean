/-
  THE TOLD AND TIED CARD OF 'FnStampUnmarshalReplacesOrKeepsWhateverItHeld', PROVED.
-/
import Derived.Test.Qxb6613619aFmtFrame
import Derived.Test.Qxb6613619aFmtLaw6
namespace Go.Proofs.Qxb6613619aFmt.StampUnmarshal
open Go.ChangeShapes Go.WideShapes Go.ChangeAt Go.RowKit Go.Kit
open Go.Extern.Stop Go.Stop Go.Extern

/-- The door's own heap meets the condition. -/
theorem door_met (os : Os) (args : Array Value) : laidMetH Tryf.prog Rows.fnStampUnmarshalReplacesOrKeepsWhateverItHeldRow.laid ((World.doorLaid Tryf.prog 62 os).forCall (fun _ _ => 0) ⟨#[], args, []⟩).memory :=
  laidMetH_of_parts3 (fuel := 8) (laidMet_of_run' 8 (by kernel_rfl) (by kernel_rfl)) (by kernel_rfl) (by kernel_rfl)

theorem law (F : Interp) (ms ct nd : Int) (p : Option Addr) (len cap : Nat) (a : Addr) (s : ByteArray) (w : World) (hF : F.answers w.tape) (hm : len ≤ maxLen) (ht : len ≤ 65536 → ∃ x, TextAt w p len cap x) (hs : SentAt w 1 a s) :
    Calls Tryf.prog 6 #[.int .i64 ms, .int .i64 ct, .int .i64 nd, .slice p len cap] w (LawOut w) := by
  by_cases h : len ≤ 65536
  · obtain ⟨x, hx⟩ := ht h
    exact law6_main F ms ct nd p len cap x a s w hF hx hs
  · exact law6_great ms ct nd p len cap w hm (by omega)

set_option maxRecDepth 100000 in
theorem lifted (os : Os) (started : os.Started) (H : Type) (enc : TypeId × Value → H) :
    ReturnsInTold none {} Tryf.checked os 6 .any Input.okWide
      ((OpenSpec.ofChange Rows.fnStampUnmarshalReplacesOrKeepsWhateverItHeldSpec).preRow enc Tryf.prog Tryf.f6 Rows.fnStampUnmarshalReplacesOrKeepsWhateverItHeldRow.domain false Rows.fnStampUnmarshalReplacesOrKeepsWhateverItHeldRow.laid)
      (fun F => ((OpenSpec.ofChange Rows.fnStampUnmarshalReplacesOrKeepsWhateverItHeldSpec).at F).post enc Tryf.prog Tryf.f6 false true false false) (aloneAtReturn Tryf.prog) nothingAlways := by
  refine returnsInTold_of_row (C := Tryf.checked) (s := OpenSpec.ofChange Rows.fnStampUnmarshalReplacesOrKeepsWhateverItHeldSpec) (by kernel_rfl) own started (by kernel_rfl) Tryf.func6
    (OpenSpec.witness_stopped_atRef (enc := enc) (C := Tryf.checked) false (World.doorLaid Tryf.prog 62 os) #[.int .i64 0, .int .i64 0, .int .i64 0, .slice none 0 0] rfl (by kernel_rfl) (by kernel_rfl) (by kernel_rfl)
      (OpenSpec.preRow_of_B rfl 8 (by kernel_rfl) (by kernel_rfl) (door_met os _))) ?_
  intro F W base args ds gs before _ hF hval0 hW _ _ _ hL _
  have hval : ∀ (j : Nat) t v, Tryf.f6.params[j]? = some t → args[j]? = some v → Value.okWide Tryf.prog W .any base t v := hval0
  have hW' := hW
  obtain ⟨p, q, hA0, hV0, rfl, _, _⟩ := hW
  have hA : DataW.TrodAll enc Tryf.prog W 0 (fun _ => true) true Tryf.f6.params.toList args.toList ds p := hA0
  rw [Tryf.params6] at hA hval
  obtain ⟨v0, vs0, d0, ds0, p0, q0, hargs, rfl, rfl, h0, r0⟩ := trodAll_cons hA
  obtain ⟨v1, vs1, d1, ds1, p1, q1, rfl, rfl, rfl, h1, r1⟩ := trodAll_cons r0
  obtain ⟨v2, vs2, d2, ds2, p2, q2, rfl, rfl, rfl, h2, r2⟩ := trodAll_cons r1
  obtain ⟨v3, vs3, d3, ds3, p3, q3, rfl, rfl, rfl, h3, r3⟩ := trodAll_cons r2
  obtain ⟨rfl, rfl, rfl⟩ := trodAll_nil r3
  obtain rfl : args = #[v0, v1, v2, v3] := by cases args; simp_all
  obtain ⟨a0, rfl, rfl, rfl, w0⟩ := open_int Tryf.underlying2 (hval 0 2 v0 rfl rfl) h0
  obtain ⟨a1, rfl, rfl, rfl, w1⟩ := open_int Tryf.underlying3 (hval 1 3 v1 rfl rfl) h1
  obtain ⟨a2, rfl, rfl, rfl, w2⟩ := open_int Tryf.underlying3 (hval 2 3 v2 rfl rfl) h2
  obtain ⟨a3, len, cap, rfl⟩ := okWide_slice Tryf.underlying22 (hval 3 22 v3 rfl rfl)
  have lt3 : ∀ x ∈ p3, x.block < W.heap.size := by obtain ⟨m, hm⟩ := h3; exact DataW.trod_lt m _ _ _ hm
  obtain ⟨hm, ht⟩ := textAt_of h3
  -- what 'laid' gives
  have hL' := hL
  rw [MakeChecks.laidMetH_plain _ _ _ (by kernel_rfl)] at hL'
  obtain ⟨a, s, hv, hc, _, _⟩ := laid_sentinel (g := 1) hL' (by kernel_rfl) (by kernel_rfl) Tryf.underlying28 row75 Tryf.underlying75 Tryf.underlying77 rfl rfl Tryf.underlying9 (by kernel_rfl) (by kernel_rfl)
  have hg1 : W.cell? ⟨1, 0, none⟩ = some (.iface 75 (.pointer (some a))) := by simpa using World.var?_cell (by kernel_rfl) hv 0
  have hV : DataW.TrodVars enc Tryf.prog W (fun _ => true) Rows.fnStampUnmarshalReplacesOrKeepsWhateverItHeldSpec.vars gs q := hV0
  obtain ⟨rfl, rfl⟩ := hV.unique (vars_read1 enc (g := 1) (by kernel_rfl) (by kernel_rfl) Tryf.underlying28 hv trivial _)
  clear hA0 hV0 hval0
  refine (law F.told a0 a1 a2 a3 len cap a s W hF hm ht ⟨hg1, hc⟩).mono fun e W' ⟨he, bel⟩ => ?_
  subst he
  exact ⟨_, rfl, _, _, _, [], _, [.cell 1 0], hW', trodAll_mk1 (shut_bool Tryf.underlying4 _),
    (trodAll_cons_mk (shut_int Tryf.underlying2 w0) (trodAll_cons_mk (shut_int Tryf.underlying3 w1) (trodAll_cons_mk (shut_int Tryf.underlying3 w2) (trodAll_cons_mk (Below.trod laidOut (by kernel_rfl) (of_decide_eq_true (by kernel_rfl)) h3 bel lt3) trodAll_mk0)))),
    vars_read1 enc (by kernel_rfl) (by kernel_rfl) Tryf.underlying28 (var?_below (g := 1) bel (by kernel_rfl) (World.block_lt_of_cell? _ _ hg1) hv) trivial _, bel.frame _, fun h => by cases h⟩

/-- ████ THE STATEMENT ████ -/
theorem proved : Rows.FnStampUnmarshalReplacesOrKeepsWhateverItHeldToldSaid :=
  Claim7.holds_of_told_tied_any_at .later 6 Tryf.f6 "fmt.errorf" [] [] _ _ _ _ _ (by kernel_rfl) rfl rfl rfl laidOut (by kernel_rfl) rfl ⟨rfl, rfl, rfl, rfl, rfl, rfl, rfl⟩ rfl rfl (by kernel_rfl) (by kernel_rfl) Tryf.func6 (by kernel_rfl)
    (of_decide_eq_true (by kernel_rfl)) (of_decide_eq_true (by kernel_rfl)) stops.symm rfl stopKnobs.symm (by kernel_rfl)
    (by kernel_rfl) (by kernel_rfl) (by kernel_rfl) (by kernel_rfl) (by kernel_rfl) (by kernel_rfl) (by kernel_rfl) (by kernel_rfl) (by kernel_rfl) rfl (by kernel_rfl) rfl rfl
    rfl rfl
    rfl (by kernel_rfl) (by kernel_rfl) (by kernel_rfl) (by decide) (by kernel_rfl) fnStampUnmarshalReplacesOrKeepsWhateverItHeld_row_tie
    (OpenClaim.moreEntering_of (by kernel_rfl) (by kernel_rfl) (by kernel_rfl) (by kernel_rfl) (by kernel_rfl) (by kernel_rfl) (by kernel_rfl) (by kernel_rfl) (by kernel_rfl) (by kernel_rfl))
    ⟨_, WideRow.started_initial, quiet _⟩
    (fun os started _ H enc _ => lifted os started H enc)
#print axioms proved
end Go.Proofs.Qxb6613619aFmt.StampUnmarshal
