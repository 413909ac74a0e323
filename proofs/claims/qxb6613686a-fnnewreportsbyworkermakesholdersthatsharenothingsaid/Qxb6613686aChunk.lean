/-
  newChunk and ZZnewChunk walked.
-/
import Derived.Test.Qxb6613686aEmp
import Derived.Deep.RegionLaw
namespace Go.Proofs.Qxb6613686a
open Go.RowKit Go.Maps
set_option maxRecDepth 100000
theorem chunk_store {b bm n c : Nat} {ws : Option Addr} {sv ev : Value} {w : World} (h5 : w.heap[b]? = some (.cells (cells6 ws n c bm sv ev) 47 (0, 0))) (c' : Nat) : (w.setCell ⟨b, 2, none⟩ (.int .i64 c')).heap[b]? = some (.cells (cells6 ws n c' bm sv ev) 47 (0, 0)) :=
  heap_setCell_same w b 2 (cells6 ws n c bm sv ev) 47 (.int .i64 c') h5
theorem chunk_done {B b bm n c ne km ns : Nat} {ws : Option Addr} {sv ev : Value} {ss es : List Value} {D : DataW Unit} {w : World} (hBb : B ≤ b) (hBm : B ≤ bm) (hns : ns ≤ c + 1) (hkm : km ≤ ne)
    (h5 : w.heap[b]? = some (.cells (cells6 ws n c bm sv ev) 47 (0, 0))) (hown : w.ownsMap Try.prog 9 (plainElem Try.prog 21) bm km D) (h7 : w.ownsRow B 39 1 sv ns ss) (h8 : w.ownsRow B 9 1 ev ne es) :
    Hold B b n (c + 1) ne D (w.setCell ⟨b, 2, none⟩ (.int .i64 (c + 1 : Nat))) := by
  have k5 := chunk_store h5 (c + 1)
  have k7 := ownsRow_setCell_other h7 (a := ⟨b, 2, none⟩) (fun e1 => apart h7 h5 (fun _ e2 => by cases e2) e1.symm) (.int .i64 (c + 1 : Nat))
  have k8 := ownsRow_setCell_other h8 (a := ⟨b, 2, none⟩) (fun e1 => apart h8 h5 (fun _ e2 => by cases e2) e1.symm) (.int .i64 (c + 1 : Nat))
  refine ⟨ws, bm, sv, ev, ss, es, km, ns, hBb, hBm, hns, hkm, k5, hown.setCell (fun e1 => ?_) _, k7, k8⟩
  obtain ⟨es0, clock, hb, _⟩ := hown
  have e2 : bm = b := e1
  rw [e2, h5] at hb
  cases hb

set_option maxHeartbeats 2000000 in
/-- A chunk of the slab in hand. -/
theorem chunk_in (B b n c ne : Nat) (D : DataW Unit) (w : World) (hc : c ≤ 20000) (hm : c % 8192 ≠ 0) (h : Hold B b n c ne D w) :
    Calls Try.prog 26 #[.pointer (some ⟨b, 0, none⟩)] w fun e w' => e = .returned (.int .u32 c) ∧ Hold B b n (c + 1) ne D w' ∧ Below B w w' := by
  obtain ⟨ws, bm, sv, ev, ss, es, km, ns, h1, h2, h3, h4, h5, hown, h7, h8⟩ := h
  have R := hide (chunk_done h1 h2 (Nat.le_succ_of_le h3) h4 h5 hown h7 h8)
  have c2 : w.cell? ⟨b, 2, none⟩ = some (.int .i64 c) := by simp [World.cell?, h5]
  have f2 : w.frozen? ⟨b, 2, none⟩ = false := by simp [World.frozen?, h5]
  have hm' : (c : Int) % 8192 ≠ 0 := by omega
  clear h5 hown h7 h8
  go_enter Try.func26, Try.ntmps26
  go_wp2
  go_ret
  exact ⟨rfl, R.out, (Below.refl _ _).setCell (p := ⟨b, 2, none⟩) h1 _⟩
theorem grown_two (w : World) (o o' : Obj) (row : Option Nat) : w.grownBy ((w.alloc o).alloc o').drew row := by
  have h := (World.grownBy_alloc w o row).trans (World.grownBy_alloc (w.alloc o) o' row)
  exact ⟨h.os, h.tape, h.output, h.size, h.block⟩
theorem slab_facts {B b bm n c ns : Nat} {ws : Option Addr} {sv ev : Value} {ss : List Value} {w w1 : World} {o o' : Obj} (h5 : w.heap[b]? = some (.cells (cells6 ws n c bm sv ev) 47 (0, 0))) (h7 : w.ownsRow B 39 1 sv ns ss)
    (hg : ((w.alloc o).alloc o').drew.grownBy w1 sv.ownBlock) : w1.cell? ⟨b, 1, none⟩ = some sv ∧ w1.frozen? ⟨b, 1, none⟩ = false ∧ w1.cell? ⟨b, 2, none⟩ = some (.int .i64 c) ∧ w1.frozen? ⟨b, 2, none⟩ = false ∧ w.grownBy w1 sv.ownBlock := by
  have hgw : w.grownBy w1 sv.ownBlock := (grown_two w o o' _).trans hg
  have k5 : w1.heap[b]? = some (.cells (cells6 ws n c bm sv ev) 47 (0, 0)) := (hgw.block b (lt_of_block h5) (apart h7 h5 (fun _ e1 => by cases e1))).trans h5
  exact ⟨by simp [World.cell?, k5], by simp [World.frozen?, k5], by simp [World.cell?, k5], by simp [World.frozen?, k5], hgw⟩
/-- The slabs' row has been appended to: what stands, and the new slice stored. -/
theorem chunk_slab {B b bm n c ne km ns : Nat} {ws : Option Addr} {sv ev v' : Value} {ss es ss' : List Value} {D : DataW Unit} {w w1 : World} (hBb : B ≤ b) (hBm : B ≤ bm) (hns : ns ≤ c) (hkm : km ≤ ne)
    (h5 : w.heap[b]? = some (.cells (cells6 ws n c bm sv ev) 47 (0, 0))) (hown : w.ownsMap Try.prog 9 (plainElem Try.prog 21) bm km D) (h7 : w.ownsRow B 39 1 sv ns ss) (h8 : w.ownsRow B 9 1 ev ne es)
    (hg : w.grownBy w1 sv.ownBlock) (hn : w1.ownsRow B 39 1 v' (ns + 1) ss') : Hold B b n (c + 1) ne D ((w1.setCell ⟨b, 1, none⟩ v').setCell ⟨b, 2, none⟩ (.int .i64 (c + 1 : Nat))) := by
  have k5 : w1.heap[b]? = some (.cells (cells6 ws n c bm sv ev) 47 (0, 0)) := (hg.block b (lt_of_block h5) (apart h7 h5 (fun _ e1 => by cases e1))).trans h5
  have km' : some bm ≠ sv.ownBlock := by
    obtain ⟨es0, clock, hb, _⟩ := hown
    exact apart h7 hb (fun _ e1 => by cases e1)
  have ko := hown.kept hg km'
  have k8 := h8.kept hg (apart_rows h8 h7 (by decide))
  have nb : bm ≠ b := by
    intro e1
    obtain ⟨es0, clock, hb, _⟩ := hown
    rw [e1, h5] at hb
    cases hb
  have j5 := heap_setCell_same w1 b 1 (cells6 ws n c bm sv ev) 47 v' k5
  have e5 : (cells6 ws n c bm sv ev).setIfInBounds 1 v' = cells6 ws n c bm v' ev := rfl
  rw [e5] at j5
  exact chunk_done hBb hBm (Nat.succ_le_succ hns) hkm j5 (ko.setCell nb v') (ownsRow_setCell_other hn (a := ⟨b, 1, none⟩) (fun e1 => apart hn k5 (fun _ e2 => by cases e2) e1.symm) v')
    (ownsRow_setCell_other k8 (a := ⟨b, 1, none⟩) (fun e1 => apart k8 k5 (fun _ e2 => by cases e2) e1.symm) v')
theorem slab_new (w : World) (M : Array Value) : ((w.alloc (.cells M 5)).alloc (.cells #[.slice (some ⟨w.heap.size, 0, none⟩) 1048576 1048576] 39)).heap[w.heap.size + 1]? = some (.cells #[.slice (some ⟨w.heap.size, 0, none⟩) 1048576 1048576] 39 (0, 0)) := by
  have := heap_alloc_new (w.alloc (.cells M 5)) (.cells #[.slice (some ⟨w.heap.size, 0, none⟩) 1048576 1048576] 39)
  simpa using this
set_option maxHeartbeats 2000000 in
/-- A chunk that wants a new slab. -/
theorem chunk_new (B b n c ne : Nat) (D : DataW Unit) (w : World) (hB : B ≤ w.heap.size) (hc : c ≤ 20000) (hm : c % 8192 = 0) (h : Hold B b n c ne D w) :
    Calls Try.prog 26 #[.pointer (some ⟨b, 0, none⟩)] w fun e w' => e = .returned (.int .u32 c) ∧ Hold B b n (c + 1) ne D w' ∧ Below B w w' := by
  obtain ⟨ws, bm, sv, ev, ss, es, km, ns, h1, h2, h3, h4, h5, hown, h7, h8⟩ := h
  obtain ⟨sa, scap, rfl⟩ := row_form h7
  have c1 : w.cell? ⟨b, 1, none⟩ = some (.slice sa ns scap) := by simp [World.cell?, h5]
  have f1 : w.frozen? ⟨b, 1, none⟩ = false := by simp [World.frozen?, h5]
  have c2 : w.cell? ⟨b, 2, none⟩ = some (.int .i64 c) := by simp [World.cell?, h5]
  have f2 : w.frozen? ⟨b, 2, none⟩ = false := by simp [World.frozen?, h5]
  have hm' : (c : Int) % 8192 = 0 := by omega
  have ag : some b ≠ (Value.slice sa ns scap).ownBlock := apart h7 h5 (fun _ e1 => by cases e1)
  have lg : b < w.heap.size := lt_of_block h5
  obtain ⟨M, hMs, hmk⟩ := made_slab
  obtain ⟨i0, hi0, hz0, hz1, hz2⟩ := info_parts info39
  have hn : ns + 1 ≤ maxLen := by unfold maxLen; omega
  have hbb : (ns + 1) * 24 ≤ 140737488355328 := by omega
  have H5 := hide h5
  have HO := hide hown
  have H8 := hide h8
  clear h5 hown h8 hMs
  go_enter Try.func26, Try.ntmps26
  go_wp2_with fail
  go_region_law
    ((refine step_append_lies _ (by rfl) _ _ _ (by rfl) B 39 i0 _ 1 24 Try.underlying44 hi0 hz0 hz1 hz2 rfl (by omega) (.slice sa ns scap) ns ss (by rfl) (((h7.alloc _).alloc _).drew)
        ⟨w.heap.size + 1, 0, none⟩ 1 1 [.slice (some ⟨w.heap.size, 0, none⟩) 1048576 1048576] (by rfl) (by rfl) (World.news_of_block (cs := #[.slice (some ⟨w.heap.size, 0, none⟩) 1048576 1048576]) (t := 39) (fr := (0, 0)) (by exact slab_new w M)) (by simp [Value.oneCell'])
        (by omega) hn hbb (by simp; omega) (w.heap.size + 1 + 1) (by simp) ?_; intro g cap w1 hown1 hgrow hat hlt; have ⟨c1', f1', c2', f2', hgw⟩ := slab_facts H5.out h7 hgrow; have HG := hide hgw; have HN := hide hown1; clear hgw hgrow hown1))
  all_goals
    go_wp2
    go_ret
    refine ⟨rfl, chunk_slab h1 h2 h3 h4 H5.out HO.out h7 H8.out HG.out HN.out, ?_⟩
    have b1 : Below B w w1 := (Below.refl B w).grown HG.out hB (fun k hk => (h7.lt k hk).1)
    exact (b1.setCell (p := ⟨b, 1, none⟩) h1 _).setCell (p := ⟨b, 2, none⟩) h1 _
theorem chunk_c (B b n c ne : Nat) (D : DataW Unit) (w : World) (hB : B ≤ w.heap.size) (hc : c ≤ 20000) (h : Hold B b n c ne D w) :
    Calls Try.prog 26 #[.pointer (some ⟨b, 0, none⟩)] w fun e w' => e = .returned (.int .u32 c) ∧ Hold B b n (c + 1) ne D w' ∧ Below B w w' := by
  by_cases hm : c % 8192 = 0
  · exact chunk_new B b n c ne D w hB hc hm h
  · exact chunk_in B b n c ne D w hc hm h
/-- ZZnewChunk hands on. -/
theorem zzchunk_c (B b n c ne : Nat) (D : DataW Unit) (w : World) (hB : B ≤ w.heap.size) (hc : c ≤ 20000) (h : Hold B b n c ne D w) :
    Calls Try.prog 15 #[.pointer (some ⟨b, 0, none⟩)] w fun e w' => e = .returned (.int .u32 c) ∧ Hold B b n (c + 1) ne D w' ∧ Below B w w' := by
  have H := hide (chunk_c B b n c ne D w hB hc h)
  clear h
  go_enter Try.func15, Try.ntmps15
  go_wp2_with fail
  refine H.out.mono ?_
  rintro e w' ⟨rfl, hq⟩
  have HQ := hide hq
  clear hq H
  go_wp2
  go_ret
  exact ⟨rfl, HQ.out⟩
end Go.Proofs.Qxb6613686a
