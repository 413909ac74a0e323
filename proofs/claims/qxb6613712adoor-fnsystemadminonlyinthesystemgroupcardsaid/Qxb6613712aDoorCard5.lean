/-
  THE TIED CARD OF 'FnSystemAdminOnlyInTheSystemGroup', PROVED.
-/
import Derived.Test.Qxb6613712aDoorCard3
namespace Go.Proofs.Qxb6613712aDoor
open Go.ChangeShapes Go.WideShapes Go.ChangeAt Go.WideMaps Go.WideElems Go.RowKit
open Go.ChangeMaps (open_string shut_string)
set_option maxRecDepth 100000

/-- The door's own heap meets the condition. -/
theorem door_met5 (os : Os) (args : Array Value) : laidMetH Tryd.prog Rows.fnSystemAdminOnlyInTheSystemGroupRow.laid ((World.doorLaid Tryd.prog 29 os).forCall (fun _ _ => 0) ⟨#[], args, []⟩).memory :=
  laidMetH_of_parts3 (fuel := 8) (laidMet_of_run' 8 (by kernel_rfl) (by kernel_rfl)) (by kernel_rfl) (by kernel_rfl)

set_option maxHeartbeats 1000000 in
theorem lifted5 (os : Os) (started : os.Started) (H : Type) (enc : TypeId × Value → H) :
    ReturnsInHanded {} Tryd.checked os 5 .any (fun w args => (Rows.fnSystemAdminOnlyInTheSystemGroupSpec.pre enc Tryd.prog Tryd.f5 [] false w args ∧ laidMetH Tryd.prog Rows.fnSystemAdminOnlyInTheSystemGroupRow.laid w) ∧ sizedMet enc Tryd.prog Tryd.f5 (OpenSpec.ofChange Rows.fnSystemAdminOnlyInTheSystemGroupSpec) false w args)
      (Rows.fnSystemAdminOnlyInTheSystemGroupSpec.post enc Tryd.prog Tryd.f5 false true false false) := by
  refine returnsInHanded_of_change_and (C := Tryd.checked) (X := fun w _ => laidMetH Tryd.prog Rows.fnSystemAdminOnlyInTheSystemGroupRow.laid w) (fun _ _ _ hh h => h.of_heap hh) own started (by kernel_rfl) Tryd.func5
    (ChangeSpec.witness_shaped (enc := enc) (C := Tryd.checked) (os := os) (X := fun w _ => laidMetH Tryd.prog Rows.fnSystemAdminOnlyInTheSystemGroupRow.laid w) false (World.doorLaid Tryd.prog 29 os) #[.string ByteArray.empty, .string ByteArray.empty, .string ByteArray.empty] 8 rfl (World.shaped_of_RefB (by kernel_rfl) (by kernel_rfl)) (by kernel_rfl) (by kernel_rfl) (by kernel_rfl) (door_met5 os _)) ?_
  intro W base args ds gs before hval0 hW _ _ hL _
  have hval : ∀ (j : Nat) t v, Tryd.f5.params[j]? = some t → args[j]? = some v → Value.okWide Tryd.prog W .any base t v := hval0
  have hW' := hW
  obtain ⟨p, q, hA0, hV, rfl, hfz, hnd⟩ := hW
  have hA : DataW.TrodAll enc Tryd.prog W 0 (fun _ => true) true Tryd.f5.params.toList args.toList ds p := hA0
  rw [Tryd.params5] at hA hval
  obtain ⟨v0, vs0, d0, ds0, p0, q0, hargs, rfl, rfl, h0, r0⟩ := trodAll_cons hA
  obtain ⟨v1, vs1, d1, ds1, p1, q1, rfl, rfl, rfl, h1, r1⟩ := trodAll_cons r0
  obtain ⟨v2, vs2, d2, ds2, p2, q2, rfl, rfl, rfl, h2, r2⟩ := trodAll_cons r1
  obtain ⟨rfl, rfl, rfl⟩ := trodAll_nil r2
  obtain rfl : args = #[v0, v1, v2] := by cases args; simp_all
  obtain ⟨a0, rfl, rfl, rfl, w0⟩ := open_string Tryd.underlying9 (hval 0 9 v0 rfl rfl) h0
  obtain ⟨a1, rfl, rfl, rfl, w1⟩ := open_string Tryd.underlying9 (hval 1 9 v1 rfl rfl) h1
  obtain ⟨a2, rfl, rfl, rfl, w2⟩ := open_string Tryd.underlying9 (hval 2 9 v2 rfl rfl) h2
  obtain ⟨bm, hc, hL2⟩ := of_laid hL
  obtain ⟨n, hs, hn⟩ := hL2 a2 w2
  obtain ⟨m, hm, hmc⟩ := hL2 adminS (by decide)
  have hm1 : m = 2 := by
    rcases hmc with ⟨e, _⟩ | ⟨_, e⟩ | ⟨e, _⟩ | ⟨_, e, _, _⟩
    · cases e
    · exact e
    · cases e
    · exact absurd (by kernel_rfl) e
  subst hm1
  clear hA0 hval0
  have walk : Calls Tryd.prog 5 #[.string a0, .string a1, .string a2] W fun e w' => e = .returned (.bool true) ∧ w' = W := by
    by_cases he : a1 = a0
    · subst he
      exact law5_same bm W a1 a2 n w0 w2 hc hs hm hn
    · exact law5_other bm W a0 a1 a2 n (fun e => he (by
        have e2 : a1.data.toList = a0.data.toList := by rw [← ByteArray.toList_eq, ← ByteArray.toList_eq]; exact e
        obtain ⟨⟨x⟩⟩ := a1
        obtain ⟨⟨y⟩⟩ := a0
        simp at e2
        simp [e2])) w1 w0 w2 hc hs hm hn
  refine walk.mono fun e W' ⟨he, hw⟩ => ?_
  subst he; subst hw
  obtain ⟨⟨d, rfl⟩, hag⟩ := vars_again hV
  exact ⟨_, rfl, post_of_same (pa := []) (pv := q) hW' (fun _ _ _ => trodAll_mk1 (shut_bool Tryd.underlying4 _)) (fun sp _ => trodAll_cons_mk (shut_string Tryd.underlying9 w0) (trodAll_cons_mk (shut_string Tryd.underlying9 w1) (trodAll_cons_mk (shut_string Tryd.underlying9 w2) trodAll_mk0))) (fun sp hsp => hag sp fun x hx => hsp x (by simpa using hx)) rfl
    (World.keptBut_refl _ _) (fun _ => rfl) (ok_one (by kernel_rfl) rfl (okWide_bool_mk Tryd.underlying4 _))⟩

theorem row5 : Rows.FnSystemAdminOnlyInTheSystemGroupSaid :=
  OpenClaim.holds_of_wide 5 Tryd.f5 rfl rfl rfl rfl rfl rfl rfl ⟨rfl, rfl, rfl, rfl, rfl⟩ rfl rfl rfl rfl rfl (by kernel_rfl) Tryd.func5 (by kernel_rfl)
    (of_decide_eq_true (by kernel_rfl)) (by unfold Func.isWrapper; first | (rw [if_pos (by decide +kernel)]; kernel_rfl) | (rw [if_neg (by decide +kernel)]; exact ⟨rfl, rfl⟩))
    (fun os started H enc _ => lifted5 os started H enc)

/-- ████ THE STATEMENT ████ -/
theorem SystemAdmin.proved : Rows.FnSystemAdminOnlyInTheSystemGroupCardSaid :=
  Claim7.holds_tied_plain_at .later [] [.mapped] true (true, "17663531ef04db26f28e826d0915029b8712cfab8ee8aba353379b1943ec9251") false
    row5 (fun _ h => by cases h) (by kernel_rfl) (fun _ h => by cases h) fnSystemAdminOnlyInTheSystemGroup_row_tie rfl ⟨rfl, rfl⟩ (by kernel_rfl) rfl
    (fun f fn hf hfn => by
      obtain rfl : f = 5 := Option.some.inj ((show Tryd.prog.funcNamed Rows.fnSystemAdminOnlyInTheSystemGroupRow.func = some 5 by kernel_rfl).symm.trans hf) |>.symm
      obtain rfl : fn = Tryd.f5 := (Option.some.inj (Tryd.func5.symm.trans hfn)).symm
      exact ⟨by kernel_rfl, fun j t ht => by
        rw [Tryd.params5] at ht
        have hm : t ∈ [9] := by simpa using Array.mem_of_getElem? ht
        have hall : ([9].all fun u => !Tryd.prog.wantsStandIn u) = true := by kernel_rfl
        exact (show Tryd.prog.wantsStandIn t = false by simpa using List.all_eq_true.1 hall t hm)⟩)
    (by kernel_rfl)
#print axioms SystemAdmin.proved
end Go.Proofs.Qxb6613712aDoor
