/-
  strings.Clone by the shelf's contract; employer and ZZemployer walked.
-/
import Derived.Test.Qxb6613686aNew
import Derived.Test.Qxb6613686aShelf
import Derived.Deep.AppendLies
import Derived.StringKeys
namespace Go.Proofs.Qxb6613686a
open Go.RowKit Go.Maps Go.WideMaps Go.WideElems
set_option maxRecDepth 100000
theorem clone_c (s : ByteArray) (w : World) (h : s.size ≤ 1048576) :
    Calls Try.prog 27 #[.string s] w fun e w' => e = .returned (.string s) ∧ Below w.heap.size w w' := by
  have hc := Any.stringslite_Clone Try.laysM316 s w (by omega)
  go_enter Try.func27, Try.ntmps27
  go_wp2_with fail
  refine (show Calls Try.prog 28 #[.string s] w _ from hc).mono ?_
  rintro e w' ⟨rfl, hb⟩
  have HB : Hid (Below w.heap.size w w') := hb
  clear hb
  go_wp2
  go_ret
  exact ⟨rfl, HB.out⟩
theorem law9 : Keyed Try.prog 9 := string_keyed Try.underlying9
theorem zero21 (w : World) : (zeroValue 21).run Try.prog w = .ok (.int .i32 0) w := by kernel_rfl

/-- The employer is there already. -/
theorem emp_old (B b n c ne : Nat) (D : DataW Unit) (id : ByteArray) (w : World) (r : Int) (hid : id.size ≤ 1048576) (h : Hold B b n c ne D w) (hh : Maps.has D (.string id.data.toList) = true) (hr : D.atKey (.string id.data.toList) (.lit (.int .i32 0)) = .lit (.int .i32 r)) :
    Calls Try.prog 25 #[.pointer (some ⟨b, 0, none⟩), .int .i32 (-1), .string id] w fun e w' => e = .returned (.int .i32 r) ∧ w' = w := by
  obtain ⟨ws, bm, sv, ev, ss, es, km, ns, h1, h2, h3, h4, h5, hown, h7, h8⟩ := h
  have hkey := keyOf_string_mk (s := id) Try.underlying9 (by unfold maxLen; omega)
  have c4 : w.cell? ⟨b, 4, none⟩ = some (.map (some bm)) := by simp [World.cell?, h5]
  clear h5 h7 h8
  go_enter Try.func25, Try.ntmps25
  go_wp2_with (first
    | (at_lookup; refine wpList_lookup_own_ok_int _ rfl _ _ 43 rfl 9 21 .i32 law9 Try.underlying43 Try.underlying21 (zero21 _) bm km D rfl hown _ _ rfl hkey ?_; intro c0 hat hwc; rw [hh])
    | go_in)
  have e0 : c0 = r := by rw [hr] at hat; cases hat; rfl
  go_ret
  exact ⟨congrArg (fun x => Ending.returned (.int .i32 x)) e0, rfl⟩

/-- A row's block is no block of another make. -/
theorem apart {w : World} {base e b n : Nat} {v : Value} {xs : List Value} {o : Obj} (h : w.ownsRow base e 1 v n xs) (hb : w.heap[b]? = some o) (hne : ∀ cur, o ≠ .cells cur e (0, 0)) : some b ≠ v.ownBlock := by
  rcases h with ⟨_, ⟨rfl, _⟩ | ⟨g, cap, cur, rfl, _, hg, _⟩⟩
  · simp [Value.ownBlock]
  · intro e1
    simp only [Value.ownBlock, Option.some.injEq] at e1
    subst e1
    rw [hb] at hg
    exact hne cur (Option.some.inj hg)
theorem apart_rows {w : World} {base e e' n n' : Nat} {v v' : Value} {xs xs' : List Value} (h : w.ownsRow base e 1 v n xs) (h' : w.ownsRow base e' 1 v' n' xs') (hne : e ≠ e') : v.ownBlock = none ∨ v.ownBlock ≠ v'.ownBlock := by
  rcases h with ⟨_, ⟨rfl, _⟩ | ⟨g, cap, cur, rfl, _, hg, _⟩⟩
  · exact .inl rfl
  · exact .inr (apart h' hg (fun cur' e1 => by cases e1; exact hne rfl))
theorem row_form {w : World} {base e n : Nat} {v : Value} {xs : List Value} (h : w.ownsRow base e 1 v n xs) : ∃ a cap, v = .slice a n cap := by
  rcases h with ⟨_, ⟨rfl, rfl⟩ | ⟨g, cap, cur, rfl, _⟩⟩
  · exact ⟨_, _, rfl⟩
  · exact ⟨_, _, rfl⟩
abbrev cells6 (ws : Option Addr) (n c bm : Nat) (sv ev : Value) : Array Value := #[.slice ws n n, sv, .int .i64 c, ev, .map (some bm), .slice none 0 0]

/-- What stands of a holder while its employers' row is appended to. -/
theorem emp_append {B b bm n c ne km ns : Nat} {ws : Option Addr} {sv ev : Value} {ss es : List Value} {D : DataW Unit} {w1 w2 : World} (o : Obj)
    (h5 : w1.heap[b]? = some (.cells (cells6 ws n c bm sv ev) 47 (0, 0))) (hown : w1.ownsMap Try.prog 9 (plainElem Try.prog 21) bm km D) (h7 : w1.ownsRow B 39 1 sv ns ss) (h8 : w1.ownsRow B 9 1 ev ne es) (hg : (w1.alloc o).grownBy w2 ev.ownBlock) :
    w2.heap[b]? = some (.cells (cells6 ws n c bm sv ev) 47 (0, 0)) ∧ w2.ownsMap Try.prog 9 (plainElem Try.prog 21) bm km D ∧ w2.ownsRow B 39 1 sv ns ss := by
  have k5 : (w1.alloc o).heap[b]? = _ := (Below.heap_alloc w1 o b (lt_of_block h5)).trans h5
  have ko := hown.alloc o
  have k7 := h7.alloc o
  have k8 := h8.alloc o
  refine ⟨(hg.block b (lt_of_block k5) (apart k8 k5 (fun _ e1 => by cases e1))).trans k5, ko.kept hg ?_, k7.kept hg (apart_rows k7 k8 (by decide))⟩
  obtain ⟨es0, clock, hb, _⟩ := ko
  exact apart k8 hb (fun _ e1 => by cases e1)
/-- .. and at the end. -/
theorem emp_done {B b bm n c ne km ns : Nat} {ws : Option Addr} {sv ev v' : Value} {ss es : List Value} {D D' : DataW Unit} {w2 w4 : World} (hBb : B ≤ b) (hBm : B ≤ bm) (hns : ns ≤ c) (hkm : km ≤ ne)
    (h5 : w2.heap[b]? = some (.cells (cells6 ws n c bm sv ev) 47 (0, 0))) (hown : w2.ownsMap Try.prog 9 (plainElem Try.prog 21) bm km D) (h7 : w2.ownsRow B 39 1 sv ns ss) (h8 : w2.ownsRow B 9 1 v' (ne + 1) es)
    (hown' : w4.ownsMap Try.prog 9 (plainElem Try.prog 21) bm (km + 1) D') (hg : (w2.setCell ⟨b, 3, none⟩ v').grownBy w4 (some bm)) : Hold B b n c (ne + 1) D' w4 := by
  have k5 := heap_setCell_same w2 b 3 (cells6 ws n c bm sv ev) 47 v' h5
  have e5 : (cells6 ws n c bm sv ev).setIfInBounds 3 v' = cells6 ws n c bm sv v' := rfl
  rw [e5] at k5
  have k7 := ownsRow_setCell_other h7 (a := ⟨b, 3, none⟩) (fun e1 => apart h7 h5 (fun _ e2 => by cases e2) e1.symm) v'
  have k8 := ownsRow_setCell_other h8 (a := ⟨b, 3, none⟩) (fun e1 => apart h8 h5 (fun _ e2 => by cases e2) e1.symm) v'
  have nb : b ≠ bm := by
    intro e1
    obtain ⟨es0, clock, hb, _⟩ := hown
    rw [← e1, h5] at hb
    cases hb
  have hmb : ∀ {e n v xs}, (w2.setCell ⟨b, 3, none⟩ v').ownsRow B e 1 v n xs → v.ownBlock = none ∨ v.ownBlock ≠ some bm := by
    intro e n v xs h
    obtain ⟨es0, clock, hb, _⟩ := hown.setCell (a := ⟨b, 3, none⟩) (fun e1 => nb e1.symm) v'
    exact .inr (fun e1 => apart h hb (fun _ e2 => by cases e2) e1.symm)
  exact ⟨ws, bm, sv, v', ss, es, km + 1, ns, hBb, hBm, hns, by omega, (hg.block b (lt_of_block k5) (by simpa using nb)).trans k5, hown', k7.kept hg (hmb k7), k8.kept hg (hmb k8)⟩

theorem emp_c3 {b bm n c : Nat} {ws : Option Addr} {sv ev : Value} {w : World} (h5 : w.heap[b]? = some (.cells (cells6 ws n c bm sv ev) 47 (0, 0))) : w.cell? ⟨b, 3, none⟩ = some ev := by simp [World.cell?, h5]
theorem emp_c4 {b bm n c : Nat} {ws : Option Addr} {sv ev : Value} {w : World} (h5 : w.heap[b]? = some (.cells (cells6 ws n c bm sv ev) 47 (0, 0))) : w.cell? ⟨b, 4, none⟩ = some (.map (some bm)) := by simp [World.cell?, h5]
theorem emp_f3 {b bm n c : Nat} {ws : Option Addr} {sv ev : Value} {w : World} {j : Nat} (h5 : w.heap[b]? = some (.cells (cells6 ws n c bm sv ev) 47 (0, 0))) : w.frozen? ⟨b, j, none⟩ = false := by simp [World.frozen?, h5]
theorem emp_map {b bm n c km : Nat} {ws : Option Addr} {sv ev : Value} {w : World} {D : DataW Unit} (h5 : w.heap[b]? = some (.cells (cells6 ws n c bm sv ev) 47 (0, 0))) (hown : w.ownsMap Try.prog 9 (plainElem Try.prog 21) bm km D) (v' : Value) :
    (w.setCell ⟨b, 3, none⟩ v').ownsMap Try.prog 9 (plainElem Try.prog 21) bm km D := by
  refine hown.setCell (fun e1 => ?_) v'
  obtain ⟨es0, clock, hb, _⟩ := hown
  have e2 : bm = b := e1
  rw [e2, h5] at hb
  cases hb
theorem hide {p : Prop} (h : p) : Hid p := h
theorem wf_small {ne : Nat} (h : ne ≤ 10) : (Lit.int .i32 ne).wf = true := by
  have e1 : IntKind.i32.min = -2147483648 := rfl
  have e2 : IntKind.i32.max = 2147483647 := rfl
  simp [Lit.wf, e1, e2]
  omega

set_option maxHeartbeats 2000000 in
/-- The employer is new. -/
theorem emp_new (B b n c ne : Nat) (D : DataW Unit) (id : ByteArray) (w : World) (hB : B ≤ w.heap.size) (hid : id.size ≤ 1048576) (hne : ne ≤ 10) (h : Hold B b n c ne D w) (hh : Maps.has D (.string id.data.toList) = false) :
    Calls Try.prog 25 #[.pointer (some ⟨b, 0, none⟩), .int .i32 (-1), .string id] w fun e w' => e = .returned (.int .i32 ne) ∧ Hold B b n c (ne + 1) (D.put (.string id.data.toList) (.lit (.int .i32 ne))) w' ∧ Below B w w' := by
  have H0 : Hid (Hold B b n c ne D w) := h
  obtain ⟨ws, bm, sv, ev, ss, es, km, ns, h1, h2, h3, h4, h5, hown, h7, h8⟩ := h
  have hkey := keyOf_string_mk (s := id) Try.underlying9 (by unfold maxLen; omega)
  have c4 : w.cell? ⟨b, 4, none⟩ = some (.map (some bm)) := by simp [World.cell?, h5]
  clear h5 h7 h8
  go_enter Try.func25, Try.ntmps25
  go_wp2_with (first
    | (at_lookup; refine wpList_lookup_own_ok_int _ rfl _ _ 43 rfl 9 21 .i32 law9 Try.underlying43 Try.underlying21 (zero21 _) bm km D rfl hown _ _ rfl hkey ?_; intro c0 hat hwc; rw [hh])
    | fail)
  clear hown c4
  refine (clone_c id w hid).mono ?_
  rintro e w1 ⟨rfl, hb1⟩
  have HB1 : Hid (Below w.heap.size w w1) := hb1
  clear hb1 h1 h2 h3 h4
  obtain ⟨ws, bm, sv, ev, ss, es, km, ns, h1, h2, h3, h4, h5, hown, h7, h8⟩ := H0.out.below (Nat.le_refl _) HB1.out
  obtain ⟨ea, ecap, rfl⟩ := row_form h8
  have H5 : Hid (w1.heap[b]? = some (.cells (cells6 ws n c bm sv (.slice ea ne ecap)) 47 (0, 0))) := h5
  have c3 : w1.cell? ⟨b, 3, none⟩ = some (.slice ea ne ecap) := by simp [World.cell?, h5]
  have hw1 : w.heap.size ≤ w1.heap.size := HB1.out.size
  have hlt : b < w1.heap.size := lt_of_block h5
  obtain ⟨i0, hi, hz0, hz1, hz2⟩ := info_parts info9
  clear h5
  have H8 := hide (h8.alloc (.cells #[.string id] 9))
  have HN := hide (cell_one_new w1 (.string id) 9)
  have HC := hide (show ∀ u ∈ [Value.string id], u.oneCell' = true by intro u hu; simp at hu; subst hu; rfl)
  have L1 := hide (show ne + 1 ≤ maxLen by unfold maxLen; omega)
  have L2 := hide (show (ne + 1) * 16 ≤ 140737488355328 by omega)
  have L3 := hide (show B ≤ (w1.alloc (.cells #[.string id] 9)).heap.size by simp; omega)
  have L4 := hide (show (w1.alloc (.cells #[.string id] 9)).heap.size = w1.heap.size + 1 by simp)
  go_wp2_with (first
    | (at_builtin; refine wpList_append_lies _ rfl (.tmp 46) (.tmp 48) 33 rfl B 9 i0 (.string ⟨#[]⟩) 1 16 Try.underlying33 hi hz0 hz1 hz2 rfl (by decide) (.slice ea ne ecap) ne es rfl H8.out ⟨w1.heap.size, 0, none⟩ 1 1 [.string id] rfl rfl HN.out HC.out (by decide) L1.out L2.out L3.out (w1.heap.size + 1) L4.out ?_; intro g cap w2 hown2 hgrow2 _ hg2; have hK := emp_append _ H5.out hown h7 h8 hgrow2; have c3' := emp_c3 hK.1; have c4' := emp_c4 hK.1; have f3' := emp_f3 (j := 3) hK.1; have hown3 := emp_map hK.1 hK.2.1 (.slice (some ⟨g, 0, none⟩) (ne + 1) cap); have HK := hide hK; have HG := hide hgrow2; have HO := hide hown2; clear hK hgrow2 hown2 hown h7 h8 c3)
    | (at_mapUpdate; refine wpList_mapUpdate_own _ rfl _ _ _ 43 rfl 9 21 law9 Try.underlying43 _ bm km D rfl hown3 (by unfold maxLen; omega) _ _ _ rfl rfl hkey _ [] (plainElem_int Try.underlying21 (wf_small hne)) ?_; intro w4 hown4 hgrow4)
    | fail)
  go_ret
  refine ⟨rfl, emp_done h1 h2 h3 h4 HK.out.1 HK.out.2.1 HK.out.2.2 HO.out hown4 hgrow4, ?_⟩
  have b1 : Below B w (w1.alloc (.cells #[.string id] 9)) := (HB1.out.mono hB).alloc (by omega) _
  have b2 : Below B w w2 := b1.grown HG.out L3.out (fun k hk => (H8.out.lt k hk).1)
  have sz : B ≤ (w2.setCell ⟨b, 3, none⟩ (.slice (some ⟨g, 0, none⟩) (ne + 1) cap)).heap.size := by
    have := b2.size
    simp
    omega
  exact (b2.setCell (p := ⟨b, 3, none⟩) h1 _).grown hgrow4 sz (fun k hk => by cases hk; exact h2)

/-- ZZemployer hands on. -/
theorem zzemp_old (B b n c ne : Nat) (D : DataW Unit) (id : ByteArray) (w : World) (r : Int) (hid : id.size ≤ 1048576) (h : Hold B b n c ne D w) (hh : Maps.has D (.string id.data.toList) = true) (hr : D.atKey (.string id.data.toList) (.lit (.int .i32 0)) = .lit (.int .i32 r)) :
    Calls Try.prog 14 #[.pointer (some ⟨b, 0, none⟩), .int .i32 (-1), .string id] w fun e w' => e = .returned (.int .i32 r) ∧ w' = w := by
  have H := hide (emp_old B b n c ne D id w r hid h hh hr)
  clear h hh hr
  go_enter Try.func14, Try.ntmps14
  go_wp2_with fail
  refine H.out.mono ?_
  rintro e w' ⟨rfl, rfl⟩
  go_wp2
  go_ret
  exact ⟨rfl, rfl⟩
theorem zzemp_new (B b n c ne : Nat) (D : DataW Unit) (id : ByteArray) (w : World) (hB : B ≤ w.heap.size) (hid : id.size ≤ 1048576) (hne : ne ≤ 10) (h : Hold B b n c ne D w) (hh : Maps.has D (.string id.data.toList) = false) :
    Calls Try.prog 14 #[.pointer (some ⟨b, 0, none⟩), .int .i32 (-1), .string id] w fun e w' => e = .returned (.int .i32 ne) ∧ Hold B b n c (ne + 1) (D.put (.string id.data.toList) (.lit (.int .i32 ne))) w' ∧ Below B w w' := by
  have H := hide (emp_new B b n c ne D id w hB hid hne h hh)
  clear h hh
  go_enter Try.func14, Try.ntmps14
  go_wp2_with fail
  refine H.out.mono ?_
  rintro e w' ⟨rfl, hq⟩
  have HQ := hide hq
  clear hq H
  go_wp2
  go_ret
  exact ⟨rfl, HQ.out⟩
end Go.Proofs.Qxb6613686a
