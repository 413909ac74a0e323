/-
  STATEMENT 6. The walk is mine; the row's step is the given shell's.
-/
import Derived.Test.Qxb6613712aRows
import Derived.WalkKit
import Derived.ProofKit
import Derived.OpenShut
import Derived.ShutString
import Derived.Laws.Concat
namespace Go.Proofs.Qxb6613712a.fnSMTPAddressAppendsAFixedSuffix
open Go.ChangeShapes Go.WideShapes Go.ChangeAt Go.RowKit
open Go.ChangeMaps (open_string shut_string)
set_option linter.unusedVariables false      -- a walk need not use every 'w<i>' (that an integer argument fits its kind)

theorem own : ownKnob Try.prog.godebug = none := by kernel_rfl

/-! ### the walk -/
set_option maxRecDepth 100000
theorem bytes_c (a0 a1 : ByteArray) (w0 : a0.size ≤ 65536) (w1 : a1.size ≤ 65536) (w : World) :
    Calls Try.prog 4 #[.string a0, .string a1] w fun e w' => e = .returned (.bool true) ∧ w' = w := by
  go_enter Try.func4, Try.ntmps4
  go_wp2
  go_ret
  exact ⟨rfl, rfl⟩
def Boolean (e : Ending) : Prop := ∃ b, e = .returned (.bool b)
theorem bytes_any (a0 a1 : ByteArray) (w0 : a0.size ≤ maxLen) (w1 : a1.size ≤ maxLen) (w : World) :
    Calls Try.prog 4 #[.string a0, .string a1] w fun e w' => Boolean e ∧ w' = w := by
  have hm : maxLen = 9223372036854775807 := rfl
  rcases (by omega : 1048576 < a0.size ∨ (a0.size ≤ 1048576 ∧ 1048576 < a1.size) ∨ (a0.size ≤ 1048576 ∧ a1.size ≤ 1048576 ∧ 1048576 < a0.size + a1.size) ∨ (a0.size ≤ 1048576 ∧ a1.size ≤ 1048576 ∧ a0.size + a1.size ≤ 1048576)) with h | ⟨h1, h2⟩ | ⟨h1, h2, h3⟩ | ⟨h1, h2, h3⟩
  all_goals
    go_enter Try.func4, Try.ntmps4
    go_wp2
    go_ret
    exact ⟨⟨_, rfl⟩, rfl⟩
def tail : ByteArray := ⟨#[64]⟩ ++ ⟨#[115, 109, 116, 112, 46, 105, 110, 116, 101, 114, 110, 97, 108]⟩
theorem tail_size : tail.size = 14 := by kernel_rfl
theorem addr_c (a y : ByteArray) (h : a.size ≤ 1000000) (hy : a ++ tail = y) (w : World) :
    Calls Try.prog 5 #[.string a] w fun e w' => e = .returned (.string y) ∧ w' = w := by
  have s1 : (⟨#[64]⟩ : ByteArray).size = 1 := rfl
  have s2 : (⟨#[115, 109, 116, 112, 46, 105, 110, 116, 101, 114, 110, 97, 108]⟩ : ByteArray).size = 13 := rfl
  have h1 := run_string_add_sum (P := Try.prog) w a ⟨#[64]⟩ (by rw [s1]; omega)
  have h2 := run_string_add_sum (P := Try.prog) w (a ++ ⟨#[64]⟩) ⟨#[115, 109, 116, 112, 46, 105, 110, 116, 101, 114, 110, 97, 108]⟩ (by rw [ByteArray.size_append', s1, s2]; omega)
  have e : a ++ ⟨#[64]⟩ ++ ⟨#[115, 109, 116, 112, 46, 105, 110, 116, 101, 114, 110, 97, 108]⟩ = y := by rw [← hy, tail, ByteArray.append_assoc]
  rw [e] at h2
  clear e hy s1 s2
  go_enter Try.func5, Try.ntmps5
  go_wp2
  go_ret
  exact ⟨rfl, rfl⟩
theorem walk (a0 : ByteArray) (a1 : ByteArray) (w0 : a0.size ≤ maxLen) (w1 : a1.size ≤ maxLen) (w : World) :
    Calls Try.prog 3 #[.string a0, .string a1] w fun e w' => e = .returned (.bool true) ∧ Grown w w' := by
  have hm : maxLen = 9223372036854775807 := rfl
  rcases (by omega : (65536 < a0.size) ∨ (a0.size ≤ 65536 ∧ 65536 < a1.size) ∨ (a0.size ≤ 65536 ∧ a1.size ≤ 65536)) with h | ⟨h1, h2⟩ | ⟨h1, h2⟩
  · go_enter Try.func3, Try.ntmps3
    go_wp2_with fail
    refine (bytes_any a0 a1 w0 w1 _).mono ?_
    rintro e w' ⟨⟨b, rfl⟩, rfl⟩
    cases b <;> go_wp2 <;> go_ret <;> exact ⟨rfl, Grown.refl _⟩
  · go_enter Try.func3, Try.ntmps3
    go_wp2_with fail
    refine (bytes_any a0 a1 w0 w1 _).mono ?_
    rintro e w' ⟨⟨b, rfl⟩, rfl⟩
    cases b <;> go_wp2 <;> go_ret <;> exact ⟨rfl, Grown.refl _⟩
  · obtain ⟨y, hy⟩ : ∃ y, a0 ++ a1 = y := ⟨_, rfl⟩
    obtain ⟨sb, hsb⟩ : ∃ y, a1 ++ tail = y := ⟨_, rfl⟩
    obtain ⟨ab, hab⟩ : ∃ x, y ++ tail = x := ⟨_, rfl⟩
    have hys : y.size ≤ 131072 := by rw [← hy, ByteArray.size_append']; omega
    have hss : sb.size = a1.size + 14 := by rw [← hsb, ByteArray.size_append', tail_size]
    have hA := fun w => run_string_add_sum (P := Try.prog) w a0 a1 (by omega)
    have hB := fun w => run_string_add_sum (P := Try.prog) w a0 sb (by omega)
    have e : a0 ++ sb = ab := by rw [← hab, ← hy, ← hsb, ByteArray.append_assoc]
    rw [hy] at hA
    rw [e] at hB
    have hys' : y.size ≤ 1000000 := by omega
    clear e
    go_enter Try.func3, Try.ntmps3
    go_wp2_with fail
    refine (bytes_c a0 a1 h1 h2 _).mono ?_
    rintro e w' ⟨rfl, rfl⟩
    go_wp2_with fail
    refine (addr_c y ab hys' hab _).mono ?_
    rintro e w' ⟨rfl, rfl⟩
    go_wp2_with fail
    refine (addr_c a1 sb (by omega) hsb _).mono ?_
    rintro e w' ⟨rfl, rfl⟩
    go_wp2
    go_ret
    exact ⟨congrArg (fun b => Ending.returned (.bool b)) (show ((a1.size : Int) + 14 == (a1.size : Int) + 1 + 13) = true by simp only [beq_iff_eq]; omega), Grown.refl _⟩

/-! ### THE ROW's STEP: WRITTEN OUT: LEAVE IT -/
set_option maxRecDepth 100000 in
theorem lifted (os : Os) (started : os.Started) (H : Type) (enc : TypeId × Value → H) :
    ReturnsInHanded {} Try.checked os 3 .any (Rows.fnSMTPAddressAppendsAFixedSuffixSpec.pre6 enc Try.prog Try.f3 Rows.fnSMTPAddressAppendsAFixedSuffixRow.domain false) (Rows.fnSMTPAddressAppendsAFixedSuffixSpec.post enc Try.prog Try.f3 false true false false) := by
  refine returnsInHanded_of_change (C := Try.checked) own started (by kernel_rfl) Try.func3
    (ChangeSpec.witness6 (enc := enc) (C := Try.checked) false ⟨#[], #[.string ByteArray.empty, .string ByteArray.empty], []⟩ 8 (by kernel_rfl) (by kernel_rfl) (by kernel_rfl) (by kernel_rfl)) ?_
  intro W base args ds gs before hval0 hW hcnd _
  have hval : ∀ (j : Nat) t v, Try.f3.params[j]? = some t → args[j]? = some v → Value.okWide Try.prog W .any base t v := hval0
  have hW' := hW
  obtain ⟨p, q, hA0, hV, rfl, hfz, hnd⟩ := hW
  have hA : DataW.TrodAll enc Try.prog W 0 (fun _ => true) true Try.f3.params.toList args.toList ds p := hA0
  rw [Try.params3] at hA hval
  obtain ⟨v0, vs0, d0, ds0, p0, q0, hargs, rfl, rfl, h0, r0⟩ := trodAll_cons hA
  obtain ⟨v1, vs1, d1, ds1, p1, q1, rfl, rfl, rfl, h1, r1⟩ := trodAll_cons r0
  obtain ⟨rfl, rfl, rfl⟩ := trodAll_nil r1
  obtain rfl : args = #[v0, v1] := by cases args; simp_all
  obtain ⟨rfl, rfl⟩ := trodVars_none hV
  obtain ⟨a0, rfl, rfl, rfl, w0⟩ := open_string Try.underlying9 (hval 0 9 v0 rfl rfl) h0
  obtain ⟨a1, rfl, rfl, rfl, w1⟩ := open_string Try.underlying9 (hval 1 9 v1 rfl rfl) h1
  clear hA0 hval0
  simp only [List.append_nil] at hW'
  refine (walk a0 a1 w0 w1 W).mono fun e W' ⟨he, hg⟩ => ?_
  subst he
  exact ⟨_, rfl, post_of_same (pa := []) (pv := []) hW' (fun _ _ _ => (trodAll_cons_mk (shut_bool Try.underlying4 _) trodAll_mk0)) (fun sp _ => (trodAll_cons_mk (shut_string Try.underlying9 w0) (trodAll_cons_mk (shut_string Try.underlying9 w1) trodAll_mk0))) (fun _ _ => rfl) rfl
    (hg.frame _) hg.2.1 (ok_one (by kernel_rfl) rfl (okWide_bool_mk Try.underlying4 _))⟩

theorem over : Rows.fnSMTPAddressAppendsAFixedSuffixRow.holds Try.pinned (OpenSpec.ofChange Rows.fnSMTPAddressAppendsAFixedSuffixSpec) :=
  OpenClaim.holds_of_wide 3 Try.f3 rfl rfl rfl rfl rfl rfl rfl ⟨rfl, rfl, rfl, rfl, rfl⟩ rfl rfl rfl rfl rfl (by kernel_rfl) Try.func3 (by kernel_rfl)
    (of_decide_eq_true (by kernel_rfl)) (by unfold Func.isWrapper; first | (rw [if_pos (by decide +kernel)]; kernel_rfl) | (rw [if_neg (by decide +kernel)]; exact ⟨rfl, rfl⟩))
    (fun os started H enc _ => lifted os started H enc)

/-- ████ THE STATEMENT ████ -/
theorem proved : Rows.FnSMTPAddressAppendsAFixedSuffixSaid :=
  over
end Go.Proofs.Qxb6613712a.fnSMTPAddressAppendsAFixedSuffix
