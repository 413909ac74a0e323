/-
  THE TIED CARDS OF 'FnIsRoleAgreesWithAtLeastMember' AND OF 'FnSystemAdminOnlyInTheSystemGroup': what the laid map gives, the rows, the cards.
-/
import Derived.Test.Qxb6613712aDoorRows
import Derived.Test.Qxb6613712aDoorCards
import Derived.Test.Qxb6613712aDoorTie
import Derived.Test.Qxb6613712aDoorWalk3
import Derived.ProofKit
import Derived.LaidMore
import Derived.OpenShut
import Derived.ShutString
import Derived.Stop.Joined
import Derived.SevenTiedAt
import Derived.ChangeVars
namespace Go.Proofs.Qxb6613712aDoor
open Go.ChangeShapes Go.WideShapes Go.ChangeAt Go.WideMaps Go.WideElems Go.RowKit
open Go.ChangeMaps (open_string shut_string)
set_option maxRecDepth 100000

theorem own : ownKnob Tryd.prog.godebug = none := by kernel_rfl
theorem gRanks : Tryd.prog.globalNamed (Rows.fnIsRoleAgreesWithAtLeastMemberSpec.vars.getD 0 Tryd.f3.name) = some 0 := by kernel_rfl
theorem tRanks : (Tryd.prog.globals[0]?).map (·.type) = some 26 := by kernel_rfl
theorem law : KeyLaw Tryd.prog 9 := string_law Tryd.underlying9

/-- The door's own heap meets the condition. -/
theorem door_met (os : Os) (args : Array Value) : laidMetH Tryd.prog Rows.fnIsRoleAgreesWithAtLeastMemberRow.laid ((World.doorLaid Tryd.prog 29 os).forCall (fun _ _ => 0) ⟨#[], args, []⟩).memory :=
  laidMetH_of_parts3 (fuel := 8) (laidMet_of_run' 8 (by kernel_rfl) (by kernel_rfl)) (by kernel_rfl) (by kernel_rfl)

abbrev D : DataW Unit := Rows.laid_example_com_gorse_gorse_account_ranks
theorem at_none {l : List UInt8} (h1 : ¬ l = [111, 119, 110, 101, 114]) (h2 : ¬ l = [97, 100, 109, 105, 110]) (h3 : ¬ l = [109, 101, 109, 98, 101, 114]) (z : DataW Unit) : D.atKey (.string l) z = z := by
  have e1 : (([97, 100, 109, 105, 110] : List UInt8) == l) = false := beq_eq_false_iff_ne.2 fun e => h2 e.symm
  have e2 : (([109, 101, 109, 98, 101, 114] : List UInt8) == l) = false := beq_eq_false_iff_ne.2 fun e => h3 e.symm
  have e3 : (([111, 119, 110, 101, 114] : List UInt8) == l) = false := beq_eq_false_iff_ne.2 fun e => h1 e.symm
  simp [D, Rows.laid_example_com_gorse_gorse_account_ranks, DataW.atKey, List.find?, Lit.sameKey, e1, e2, e3]
/-- WHAT THE CONDITION GIVES THE WALKS: the map's cell, and every look-up. -/
theorem of_laid {W : World} (h : laidMetH Tryd.prog Rows.fnIsRoleAgreesWithAtLeastMemberRow.laid W) : ∃ bm, W.cell? ⟨0, 0, none⟩ = some (.map (some bm)) ∧
    ∀ s : ByteArray, s.size ≤ maxLen → ∃ n, Ranks bm W s n ∧ ((s = ownerS ∧ n = 3) ∨ (s = adminS ∧ n = 2) ∨ (s = memberS ∧ n = 1) ∨ (¬ s.toList = [111, 119, 110, 101, 114] ∧ ¬ s.toList = [97, 100, 109, 105, 110] ∧ ¬ s.toList = [109, 101, 109, 98, 101, 114] ∧ n = 0)) := by
  rw [MakeChecks.laidMetH_plain _ _ _ (by kernel_rfl)] at h
  obtain ⟨ps, ⟨g0, t0, cs0, f0, p0, q0, hg0, ht0, hv0, hd0, _, _⟩, _, _⟩ := h
  obtain rfl := Option.some.inj (gRanks.symm.trans hg0)
  obtain rfl := Option.some.inj (tRanks.symm.trans ht0)
  have zero : (zeroValue 3).run Tryd.prog W = .ok (.int .i64 0) W := by kernel_rfl
  rcases open_map Tryd.underlying26 hd0 with ⟨_, hx⟩ | ⟨bm, es, clock, m, rfl, hcs, hb, _, F, hx⟩
  · simp [Rows.laid_example_com_gorse_gorse_account_ranks] at hx
  simp only [Prod.mk.injEq] at hx
  have hcell : W.cell? ⟨0, 0, none⟩ = some (.map (some bm)) := by
    have := World.var?_cell hg0 hv0 0
    rw [Array.eq_one_of_toList hcs] at this
    simpa using this
  refine ⟨bm, hcell, fun s hs => ?_⟩
  rcases fit_lookup (w := W) law Tryd.underlying26 zero hb F (keyOf_string_mk (s := s) Tryd.underlying9 hs) with ⟨hrun, hat⟩ | ⟨v, y, hrun, hRv, hat, _⟩
  · refine ⟨0, hrun, .inr (.inr (.inr ?_))⟩
    rw [← hx.1] at hat
    have no : ∀ n : Int, D.atKey (.string s.data.toList) .nil ≠ .lit (.int .i64 n) := fun n e => by
      have := (hat .nil).symm.trans e
      cases this
    refine ⟨fun e => no 3 ?_, fun e => no 2 ?_, fun e => no 1 ?_, rfl⟩
    all_goals
      have e2 : s.data.toList = _ := (ByteArray.toList_eq s).symm.trans e
      rw [e2]
      rfl
  · obtain ⟨r, rfl, rfl, _⟩ := elemAt_int Tryd.underlying3 hRv
    rw [← hx.1] at hat
    refine ⟨r, hrun, ?_⟩
    have hat0 : D.atKey (.string s.data.toList) .nil = .lit (.int .i64 r) := hat .nil
    rcases rank_cases s with rfl | rfl | rfl | ⟨h1, h2, h3⟩
    · left
      have : D.atKey (.string ownerS.data.toList) .nil = .lit (.int .i64 3) := rfl
      rw [this] at hat0
      cases hat0
      exact ⟨rfl, rfl⟩
    · right; left
      have : D.atKey (.string adminS.data.toList) .nil = .lit (.int .i64 2) := rfl
      rw [this] at hat0
      cases hat0
      exact ⟨rfl, rfl⟩
    · right; right; left
      have : D.atKey (.string memberS.data.toList) .nil = .lit (.int .i64 1) := rfl
      rw [this] at hat0
      cases hat0
      exact ⟨rfl, rfl⟩
    · have k1 := toList_ne (l := [111, 119, 110, 101, 114]) h1
      have k2 := toList_ne (l := [97, 100, 109, 105, 110]) h2
      have k3 := toList_ne (l := [109, 101, 109, 98, 101, 114]) h3
      rw [ByteArray.toList_eq] at k1 k2 k3
      rw [at_none k1 k2 k3] at hat0
      cases hat0

theorem kids : Kids Tryd.prog (· < Tryd.prog.types.size) := kids_rows (by kernel_rfl) (by kernel_rfl)
theorem full : ∀ t e, t < Tryd.prog.types.size → Tryd.prog.underlying t = some (.slice e) → 0 < Tryd.prog.cellsOf e := slices_full_of Tryd.prog (by kernel_rfl)
theorem lt26 : 26 < Tryd.prog.types.size := of_decide_eq_true (by kernel_rfl)
/-- The listed variable reads alike however spare cells are told. -/
theorem vars_again {H : Type} {enc : TypeId × Value → H} {W : World} {gs : List (DataW H)} {q : List MemPlace} (h : DataW.TrodVars enc Tryd.prog W (fun _ => true) Rows.fnIsRoleAgreesWithAtLeastMemberSpec.vars gs q) :
    (∃ d, gs = [d]) ∧ ∀ sp : Nat → Bool, (∀ p ∈ q, sp p.block = true) → DataW.TrodVars enc Tryd.prog W sp Rows.fnIsRoleAgreesWithAtLeastMemberSpec.vars gs q := by
  obtain ⟨g, t, cs, fuel, d, p, rfl, h1, h2, h3, h4, rfl⟩ := trodVars_one h
  obtain rfl := Option.some.inj (gRanks.symm.trans h1)
  obtain rfl := Option.some.inj (tRanks.symm.trans h2)
  exact ⟨⟨d, rfl⟩, fun sp hsp => trodVars_mk1 h1 h2 h3 (DataW.trod_respare kids full _ _ _ _ lt26 h4 fun x hx => hsp x (List.mem_append_right _ hx))⟩

set_option maxHeartbeats 1000000 in
theorem lifted3 (os : Os) (started : os.Started) (H : Type) (enc : TypeId × Value → H) :
    ReturnsInHanded {} Tryd.checked os 3 .any (fun w args => (Rows.fnIsRoleAgreesWithAtLeastMemberSpec.pre enc Tryd.prog Tryd.f3 [] false w args ∧ laidMetH Tryd.prog Rows.fnIsRoleAgreesWithAtLeastMemberRow.laid w) ∧ sizedMet enc Tryd.prog Tryd.f3 (OpenSpec.ofChange Rows.fnIsRoleAgreesWithAtLeastMemberSpec) false w args)
      (Rows.fnIsRoleAgreesWithAtLeastMemberSpec.post enc Tryd.prog Tryd.f3 false true false false) := by
  refine returnsInHanded_of_change_and (C := Tryd.checked) (X := fun w _ => laidMetH Tryd.prog Rows.fnIsRoleAgreesWithAtLeastMemberRow.laid w) (fun _ _ _ hh h => h.of_heap hh) own started (by kernel_rfl) Tryd.func3
    (ChangeSpec.witness_shaped (enc := enc) (C := Tryd.checked) (os := os) (X := fun w _ => laidMetH Tryd.prog Rows.fnIsRoleAgreesWithAtLeastMemberRow.laid w) false (World.doorLaid Tryd.prog 29 os) #[.string ByteArray.empty] 8 rfl (World.shaped_of_RefB (by kernel_rfl) (by kernel_rfl)) (by kernel_rfl) (by kernel_rfl) (by kernel_rfl) (door_met os _)) ?_
  intro W base args ds gs before hval0 hW _ _ hL _
  have hval : ∀ (j : Nat) t v, Tryd.f3.params[j]? = some t → args[j]? = some v → Value.okWide Tryd.prog W .any base t v := hval0
  have hW' := hW
  obtain ⟨p, q, hA0, hV, rfl, hfz, hnd⟩ := hW
  have hA : DataW.TrodAll enc Tryd.prog W 0 (fun _ => true) true Tryd.f3.params.toList args.toList ds p := hA0
  rw [Tryd.params3] at hA hval
  obtain ⟨v0, d0, rfl, rfl, h0⟩ := trodAll_one hA
  obtain ⟨a0, rfl, rfl, rfl, w0⟩ := open_string Tryd.underlying9 (hval 0 9 v0 rfl rfl) h0
  obtain ⟨bm, hc, hL2⟩ := of_laid hL
  obtain ⟨n, hs, hn⟩ := hL2 a0 w0
  obtain ⟨m, hm, hmc⟩ := hL2 memberS (by decide)
  have hm1 : m = 1 := by
    rcases hmc with ⟨e, _⟩ | ⟨e, _⟩ | ⟨_, e⟩ | ⟨_, _, e, _⟩
    · cases e
    · cases e
    · exact e
    · exact absurd (by kernel_rfl) e
  subst hm1
  clear hA0 hval0
  refine (law3_main bm W a0 n w0 hc hs hm hn).mono fun e W' ⟨he, hw⟩ => ?_
  subst he; subst hw
  obtain ⟨⟨d, rfl⟩, hag⟩ := vars_again hV
  exact ⟨_, rfl, post_of_same (pa := []) (pv := q) hW' (fun _ _ _ => trodAll_mk1 (shut_bool Tryd.underlying4 _)) (fun sp _ => trodAll_mk1 (shut_string Tryd.underlying9 w0)) (fun sp hsp => hag sp fun x hx => hsp x (by simpa using hx)) rfl
    (World.keptBut_refl _ _) (fun _ => rfl) (ok_one (by kernel_rfl) rfl (okWide_bool_mk Tryd.underlying4 _))⟩

theorem row3 : Rows.FnIsRoleAgreesWithAtLeastMemberSaid :=
  OpenClaim.holds_of_wide 3 Tryd.f3 rfl rfl rfl rfl rfl rfl rfl ⟨rfl, rfl, rfl, rfl, rfl⟩ rfl rfl rfl rfl rfl (by kernel_rfl) Tryd.func3 (by kernel_rfl)
    (of_decide_eq_true (by kernel_rfl)) (by unfold Func.isWrapper; first | (rw [if_pos (by decide +kernel)]; kernel_rfl) | (rw [if_neg (by decide +kernel)]; exact ⟨rfl, rfl⟩))
    (fun os started H enc _ => lifted3 os started H enc)

/-- ████ THE STATEMENT ████ -/
theorem IsRole.proved : Rows.FnIsRoleAgreesWithAtLeastMemberCardSaid :=
  Claim7.holds_tied_plain_at .later [] [.mapped] true (true, "17663531ef04db26f28e826d0915029b8712cfab8ee8aba353379b1943ec9251") false
    row3 (fun _ h => by cases h) (by kernel_rfl) (fun _ h => by cases h) fnIsRoleAgreesWithAtLeastMember_row_tie rfl ⟨rfl, rfl⟩ (by kernel_rfl) rfl
    (fun f fn hf hfn => by
      obtain rfl : f = 3 := Option.some.inj ((show Tryd.prog.funcNamed Rows.fnIsRoleAgreesWithAtLeastMemberRow.func = some 3 by kernel_rfl).symm.trans hf) |>.symm
      obtain rfl : fn = Tryd.f3 := (Option.some.inj (Tryd.func3.symm.trans hfn)).symm
      exact ⟨by kernel_rfl, fun j t ht => by
        rw [Tryd.params3] at ht
        have hm : t ∈ [9] := by simpa using Array.mem_of_getElem? ht
        have hall : ([9].all fun u => !Tryd.prog.wantsStandIn u) = true := by kernel_rfl
        exact (show Tryd.prog.wantsStandIn t = false by simpa using List.all_eq_true.1 hall t hm)⟩)
    (by kernel_rfl)
#print axioms IsRole.proved
end Go.Proofs.Qxb6613712aDoor
