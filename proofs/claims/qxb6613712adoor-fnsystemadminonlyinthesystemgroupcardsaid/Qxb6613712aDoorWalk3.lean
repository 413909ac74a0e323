/-
  THE WALKS OF THE RANKS: IsRole, AtLeast, SystemAdmin and the two laws. Each look-up of the map is a hypothesis.
-/
import Derived.Test.Qxb6613712aDoorProg
import Derived.WalkKit
namespace Go.Proofs.Qxb6613712aDoor
set_option maxRecDepth 100000
abbrev memberS : ByteArray := { data := #[109, 101, 109, 98, 101, 114] }
abbrev adminS : ByteArray := { data := #[97, 100, 109, 105, 110] }
abbrev ownerS : ByteArray := { data := #[111, 119, 110, 101, 114] }
/-- The map's look-up of one string answers one number. -/
def Ranks (bm : Nat) (w : World) (s : ByteArray) (n : Int) : Prop := (Instr.lookup 26 (.map (some bm)) (.string s) false).run Tryd.prog w = .ok (.int .i64 n) w

theorem isRole_c (bm : Nat) (w : World) (s : ByteArray) (n : Int) (hc : w.cell? ⟨0, 0, none⟩ = some (.map (some bm))) (hs : Ranks bm w s n) :
    Calls Tryd.prog 8 #[.string s] w fun e w' => e = .returned (.bool (decide (0 < n))) ∧ w' = w := by
  unfold Ranks at hs
  go_enter Tryd.func8, Tryd.ntmps8
  go_wp2
  go_ret
  exact ⟨rfl, rfl⟩
theorem atLeast_c (bm : Nat) (w : World) (s t : ByteArray) (n m : Int) (hc : w.cell? ⟨0, 0, none⟩ = some (.map (some bm))) (hs : Ranks bm w s n) (ht : Ranks bm w t m) :
    Calls Tryd.prog 9 #[.string s, .string t] w fun e w' => e = .returned (.bool (decide (m ≤ n))) ∧ w' = w := by
  unfold Ranks at hs ht
  go_enter Tryd.func9, Tryd.ntmps9
  go_wp2
  go_ret
  exact ⟨rfl, rfl⟩
theorem bytes1_any (a0 : ByteArray) (w0 : a0.size ≤ maxLen) (w : World) :
    Calls Tryd.prog 7 #[.string a0] w fun e w' => (∃ b, e = .returned (.bool b)) ∧ w' = w := by
  have hm : maxLen = 9223372036854775807 := rfl
  rcases (by omega : 1048576 < a0.size ∨ a0.size ≤ 1048576) with h | h
  all_goals
    go_enter Tryd.func7, Tryd.ntmps7
    go_wp2
    go_ret
    exact ⟨⟨_, rfl⟩, rfl⟩
/-- What a role's rank is. -/
theorem rank_cases (s : ByteArray) : s = ownerS ∨ s = adminS ∨ s = memberS ∨ (s ≠ ownerS ∧ s ≠ adminS ∧ s ≠ memberS) := by
  by_cases h1 : s = ownerS
  · exact .inl h1
  by_cases h2 : s = adminS
  · exact .inr (.inl h2)
  by_cases h3 : s = memberS
  · exact .inr (.inr (.inl h3))
  exact .inr (.inr (.inr ⟨h1, h2, h3⟩))

theorem toList_ne {s : ByteArray} {l : List UInt8} (h : s ≠ { data := l.toArray }) : ¬ s.toList = l := by
  intro e
  apply h
  have e2 : s.data.toList = l := by rw [← e]; exact (ByteArray.toList_eq s).symm
  obtain ⟨⟨d⟩⟩ := s
  simp at e2
  simp [e2]

/-- The law's walk, once the rank is known and the tests on the string's text are. -/
theorem law3_main (bm : Nat) (w : World) (s : ByteArray) (n : Int) (w0 : s.size ≤ maxLen) (hc : w.cell? ⟨0, 0, none⟩ = some (.map (some bm))) (hs : Ranks bm w s n) (hm : Ranks bm w memberS 1)
    (hn : (s = ownerS ∧ n = 3) ∨ (s = adminS ∧ n = 2) ∨ (s = memberS ∧ n = 1) ∨ (¬ s.toList = [111, 119, 110, 101, 114] ∧ ¬ s.toList = [97, 100, 109, 105, 110] ∧ ¬ s.toList = [109, 101, 109, 98, 101, 114] ∧ n = 0)) :
    Calls Tryd.prog 3 #[.string s] w fun e w' => e = .returned (.bool true) ∧ w' = w := by
  rcases hn with ⟨rfl, rfl⟩ | ⟨rfl, rfl⟩ | ⟨rfl, rfl⟩ | ⟨n1, n2, n3, rfl⟩
  all_goals
    go_enter Tryd.func3, Tryd.ntmps3
    go_wp2_with fail
    refine (bytes1_any _ w0 _).mono ?_
    rintro e w' ⟨⟨b, rfl⟩, rfl⟩
    cases b
    · go_wp2; go_ret; exact ⟨rfl, rfl⟩
  all_goals try
    go_wp2_with fail
    refine (isRole_c bm _ _ _ hc hs).mono ?_
    rintro e w' ⟨rfl, rfl⟩
    go_wp2_with fail
    refine (atLeast_c bm _ _ memberS _ 1 hc hs hm).mono ?_
    rintro e w' ⟨rfl, rfl⟩
    go_wp2
    go_ret
    exact ⟨rfl, rfl⟩
  by_cases hl : 65536 < s.size
  · go_wp2; go_ret; exact ⟨rfl, rfl⟩
  go_wp2_with fail
  refine (isRole_c bm _ _ _ hc hs).mono ?_
  rintro e w' ⟨rfl, rfl⟩
  go_wp2_with fail
  refine (atLeast_c bm _ _ memberS _ 1 hc hs hm).mono ?_
  rintro e w' ⟨rfl, rfl⟩
  go_wp2
  go_ret
  exact ⟨congrArg (fun b => Ending.returned (.bool b)) (show (!s.toList == [111, 119, 110, 101, 114] && !s.toList == [97, 100, 109, 105, 110] && !s.toList == [109, 101, 109, 98, 101, 114]) = true by simp [n1, n2, n3]), rfl⟩

theorem bytes3_any (a0 a1 a2 : ByteArray) (w0 : a0.size ≤ maxLen) (w1 : a1.size ≤ maxLen) (w2 : a2.size ≤ maxLen) (w : World) :
    Calls Tryd.prog 11 #[.string a0, .string a1, .string a2] w fun e w' => (∃ b, e = .returned (.bool b)) ∧ w' = w := by
  have hm : maxLen = 9223372036854775807 := rfl
  rcases (by omega : 1048576 < a0.size ∨ (a0.size ≤ 1048576 ∧ 1048576 < a1.size) ∨ (a0.size ≤ 1048576 ∧ a1.size ≤ 1048576 ∧ 1048576 < a0.size + a1.size) ∨ (a0.size + a1.size ≤ 1048576 ∧ 1048576 < a2.size) ∨
      (a0.size + a1.size ≤ 1048576 ∧ a2.size ≤ 1048576 ∧ 1048576 < a0.size + a1.size + a2.size) ∨ (a0.size + a1.size + a2.size ≤ 1048576)) with h | ⟨h1, h2⟩ | ⟨h1, h2, h3⟩ | ⟨h1, h2⟩ | ⟨h1, h2, h3⟩ | h1
  all_goals
    go_enter Tryd.func11, Tryd.ntmps11
    go_wp2
    go_ret
    exact ⟨⟨_, rfl⟩, rfl⟩
theorem sys_same (bm : Nat) (w : World) (g s : ByteArray) (n : Int) (hc : w.cell? ⟨0, 0, none⟩ = some (.map (some bm))) (hs : Ranks bm w s n) (ha : Ranks bm w adminS 2) :
    Calls Tryd.prog 12 #[.string g, .string g, .string s] w fun e w' => e = .returned (.bool (decide (2 ≤ n))) ∧ w' = w := by
  go_enter Tryd.func12, Tryd.ntmps12
  go_wp2_with fail
  refine (atLeast_c bm _ _ adminS _ 2 hc hs ha).mono ?_
  rintro e w' ⟨rfl, rfl⟩
  go_wp2
  go_ret
  exact ⟨rfl, rfl⟩
theorem sys_other (w : World) (y g s : ByteArray) (hne : ¬ g.toList = y.toList) :
    Calls Tryd.prog 12 #[.string y, .string g, .string s] w fun e w' => e = .returned (.bool false) ∧ w' = w := by
  go_enter Tryd.func12, Tryd.ntmps12
  go_wp2
  go_ret
  exact ⟨rfl, rfl⟩
theorem law5_same (bm : Nat) (w : World) (g s : ByteArray) (n : Int) (w0 : g.size ≤ maxLen) (w1 : s.size ≤ maxLen) (hc : w.cell? ⟨0, 0, none⟩ = some (.map (some bm))) (hs : Ranks bm w s n) (ha : Ranks bm w adminS 2)
    (hn : (s = ownerS ∧ n = 3) ∨ (s = adminS ∧ n = 2) ∨ (s = memberS ∧ n = 1) ∨ (¬ s.toList = [111, 119, 110, 101, 114] ∧ ¬ s.toList = [97, 100, 109, 105, 110] ∧ ¬ s.toList = [109, 101, 109, 98, 101, 114] ∧ n = 0)) :
    Calls Tryd.prog 5 #[.string g, .string g, .string s] w fun e w' => e = .returned (.bool true) ∧ w' = w := by
  rcases hn with ⟨rfl, rfl⟩ | ⟨rfl, rfl⟩ | ⟨rfl, rfl⟩ | ⟨n1, n2, n3, rfl⟩
  all_goals
    go_enter Tryd.func5, Tryd.ntmps5
    go_wp2_with fail
    refine (bytes3_any _ _ _ w0 w0 w1 _).mono ?_
    rintro e w' ⟨⟨b, rfl⟩, rfl⟩
    cases b
    · go_wp2; go_ret; exact ⟨rfl, rfl⟩
    by_cases hl : 65536 < g.size
    · go_wp2; go_ret; exact ⟨rfl, rfl⟩
  all_goals try
    go_wp2_with fail
    refine (sys_same bm _ g _ _ hc hs ha).mono ?_
    rintro e w' ⟨rfl, rfl⟩
    go_wp2_with fail
    refine (sys_same bm _ g _ _ hc hs ha).mono ?_
    rintro e w' ⟨rfl, rfl⟩
    go_wp2
    go_ret
    exact ⟨rfl, rfl⟩
  by_cases hl : 65536 < s.size
  · go_wp2; go_ret; exact ⟨rfl, rfl⟩
  go_wp2_with fail
  refine (sys_same bm _ g _ _ hc hs ha).mono ?_
  rintro e w' ⟨rfl, rfl⟩
  go_wp2_with fail
  refine (sys_same bm _ g _ _ hc hs ha).mono ?_
  rintro e w' ⟨rfl, rfl⟩
  go_wp2
  go_ret
  exact ⟨congrArg (fun b => Ending.returned (.bool b)) (show (!s.toList == [111, 119, 110, 101, 114] && !s.toList == [97, 100, 109, 105, 110]) = true by simp [n1, n2]), rfl⟩
theorem law5_other (bm : Nat) (w : World) (y g s : ByteArray) (n : Int) (hne : ¬ g.toList = y.toList) (w0 : g.size ≤ maxLen) (w2 : y.size ≤ maxLen) (w1 : s.size ≤ maxLen) (hc : w.cell? ⟨0, 0, none⟩ = some (.map (some bm))) (hs : Ranks bm w s n) (ha : Ranks bm w adminS 2)
    (hn : (s = ownerS ∧ n = 3) ∨ (s = adminS ∧ n = 2) ∨ (s = memberS ∧ n = 1) ∨ (¬ s.toList = [111, 119, 110, 101, 114] ∧ ¬ s.toList = [97, 100, 109, 105, 110] ∧ ¬ s.toList = [109, 101, 109, 98, 101, 114] ∧ n = 0)) :
    Calls Tryd.prog 5 #[.string y, .string g, .string s] w fun e w' => e = .returned (.bool true) ∧ w' = w := by
  rcases hn with ⟨rfl, rfl⟩ | ⟨rfl, rfl⟩ | ⟨rfl, rfl⟩ | ⟨n1, n2, n3, rfl⟩
  all_goals
    go_enter Tryd.func5, Tryd.ntmps5
    go_wp2_with fail
    refine (bytes3_any _ _ _ w2 w0 w1 _).mono ?_
    rintro e w' ⟨⟨b, rfl⟩, rfl⟩
    cases b
    · go_wp2; go_ret; exact ⟨rfl, rfl⟩
    by_cases hl : 65536 < y.size
    · go_wp2; go_ret; exact ⟨rfl, rfl⟩
    by_cases hl2 : 65536 < g.size
    · go_wp2; go_ret; exact ⟨rfl, rfl⟩
  all_goals try
    go_wp2_with fail
    refine (sys_other _ y g _ hne).mono ?_
    rintro e w' ⟨rfl, rfl⟩
    go_wp2_with fail
    refine (sys_same bm _ y _ _ hc hs ha).mono ?_
    rintro e w' ⟨rfl, rfl⟩
    go_wp2
    go_ret
    exact ⟨rfl, rfl⟩
  by_cases hl : 65536 < s.size
  · go_wp2; go_ret; exact ⟨rfl, rfl⟩
  go_wp2_with fail
  refine (sys_other _ y g _ hne).mono ?_
  rintro e w' ⟨rfl, rfl⟩
  go_wp2_with fail
  refine (sys_same bm _ y _ _ hc hs ha).mono ?_
  rintro e w' ⟨rfl, rfl⟩
  go_wp2
  go_ret
  exact ⟨congrArg (fun b => Ending.returned (.bool b)) (show (!s.toList == [111, 119, 110, 101, 114] && !s.toList == [97, 100, 109, 105, 110]) = true by simp [n1, n2]), rfl⟩
end Go.Proofs.Qxb6613712aDoor
