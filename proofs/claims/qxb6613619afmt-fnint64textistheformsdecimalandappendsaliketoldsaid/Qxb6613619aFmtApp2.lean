/-
  strconv.AppendInt ONTO A ROW OF THE CALL's OWN, AT A NUMBER THAT IS NOT NEGATIVE, WITH ITS WHOLE FRAME: nothing that was there turns but dst's own row. The leaves (small, numDigits, formatBase10) go by the shelf's contracts.
-/
import Derived.Test.Qxb6613619aFmtApp
namespace Go.Proofs.Qxb6613619aFmt
open Go.RowKit Go.Extern.Stop Go.Stop Go.Extern Go.Sort
open Go.Lib (nDigits decDigits)
set_option maxRecDepth 100000

theorem small_c (u : Nat) (hu : u < 100) (w : World) : Calls Tryf.prog 44 #[.int .i64 u] w fun e w' => e = .returned (.string ⟨(decDigits u).toArray⟩) ∧ w' = w :=
  Any.internal_strconv_small (ρ := Tryf.laysM176_ren) { Tryf.laysM176 with } u hu w
theorem numDigits_c (u : Nat) (h1 : 1 ≤ u) (h2 : u < 18446744073709551616) (w : World) (ht : PowTab w) : Calls Tryf.prog 45 #[.int .u64 u] w fun e w' => e = .returned (.int .i64 (nDigits u)) ∧ w' = w :=
  Any.internal_strconv_numDigits (ρ := Tryf.laysM176_ren) { Tryf.laysM176 with } u h1 h2 w ht

/-- What AppendUint leaves. -/
def Appended (n u : Nat) (sv : Value) (xs : List Value) (w : World) (e : Ending) (w' : World) : Prop :=
  ∃ v', e = .returned v' ∧ w'.ownsRow 0 5 1 v' (n + nDigits u) (xs ++ Lib.byteCells (decDigits u)) ∧ w.grownBy w' sv.ownBlock
theorem info5 : (Tryf.prog.info? 5).map (fun i => (i.zero, i.size, i.bytes)) = some (some (.int .u8 0), 1, 1) := by kernel_rfl

set_option maxHeartbeats 2000000 in
theorem appUint_small (n u : Nat) (hu : u < 100) (p : Option Addr) (cap : Nat) (xs : List Value) (w : World) (hown : w.ownsRow 0 5 1 (.slice p n cap) n xs) (hlim : n ≤ 1048576) :
    Calls Tryf.prog 38 #[.slice p n cap, .int .u64 u, .int .i64 10] w (Appended n u (.slice p n cap) xs w) := by
  obtain ⟨i0, hi, hz0, hz1, hz2⟩ := info_parts info5
  have hnd : nDigits u ≤ 2 := by
    by_cases h10 : u < 10
    · rw [Lib.nDigits_small h10]; omega
    · rw [Lib.nDigits_big h10, Lib.nDigits_small (show u / 10 < 10 by omega)]; omega
  obtain ⟨S, HS⟩ : ∃ S : ByteArray, Hid ((⟨(decDigits u).toArray⟩ : ByteArray) = S) := ⟨_, rfl⟩
  have hsz : S.size = nDigits u := by rw [← HS.out]; simp [ByteArray.size, Lib.decDigits_length]
  have HO := Lib.hid hown
  have L1 : Hid (n + S.size ≤ maxLen) := by rw [hsz]; show n + nDigits u ≤ maxLen; unfold maxLen; omega
  have L2 : Hid (n + S.size ≤ 140737488355328) := by rw [hsz]; show n + nDigits u ≤ _; omega
  go_enter Tryf.func38, Tryf.ntmps38
  go_wp2_with fail
  refine (small_c u hu w).mono ?_
  rintro e w' ⟨rfl, rfl⟩
  rw [HS.out]
  go_wp2_with (at_builtin; refine Lib.wpList_append_own_string _ rfl _ _ 22 9 rfl 0 5 i0 Tryf.underlying22 Tryf.underlying9 hi hz0 hz1 hz2 (.slice p n cap) n xs rfl HO.out S rfl L1.out L2.out (Nat.zero_le _) ?_; intro v' w1 hown' hgrow _; have HW := Lib.hid hown'; have HG := Lib.hid hgrow; clear hown' hgrow)
  go_ret
  refine ⟨_, rfl, ?_, HG.out⟩
  have h := HW.out
  rw [hsz, ← HS.out] at h
  exact h

/-- What formatBase10 leaves of a new row of 24 bytes: the numeral in its first cells; nothing else has turned. -/
def Digits (u : Nat) (w w' : World) : Prop := w.grownBy w' none ∧ ∀ j x, (Lib.byteCells (decDigits u))[j]? = some x → w'.cell? ((⟨w.heap.size, 0, none⟩ : Addr).add j) = some x
theorem fmt_c (u : Nat) (h20 : nDigits u ≤ 20) (h64 : u < 18446744073709551616) (w : World) :
    Calls Tryf.prog 46 #[.slice (some ⟨w.heap.size, 0, none⟩) (nDigits u) 24, .int .u64 u] (w.alloc (.cells Lib.zeros24 70)) fun e w' => e = .returned (.tuple #[]) ∧ Digits u w w' := by
  have hz := Lib.holds_zero0 w 70 (nDigits u) (by omega)
  have hc := Any.internal_strconv_formatBase10 (ρ := Tryf.laysM176_ren) { Tryf.laysM176 with } w.heap.size 0 24 u (Array.replicate (nDigits u) 0) (w.alloc (.cells Lib.zeros24 70)) hz (by rw [Array.size_replicate]; exact Lib.lt_pow_nDigits u) h64 (by rw [Array.size_replicate]; omega)
  rw [Array.size_replicate] at hc
  refine (show Calls Tryf.prog 46 _ _ _ from hc).mono ?_
  rintro e w' ⟨rfl, k, v', dk, rfl, hF⟩
  refine ⟨rfl, ?_, fun j x hj => ?_⟩
  · obtain ⟨os, eo⟩ := Lib.fin_at w (.cells Lib.zeros24 70) dk k 0
    rw [eo]
    have hb := Lib.below_grow w.heap.size w (Nat.le_refl _) k os
    exact ⟨hb.os, hb.tape, hb.output, hb.size, fun i hi _ => hb.block i hi⟩
  · have hl : j < (decDigits u).length := by
      have := (List.getElem?_eq_some_iff.1 hj).1
      rwa [Lib.byteCells_length] at this
    have hx : x = Value.int .u8 ((decDigits u)[j].toNat : Int) := by
      have e1 : (Lib.byteCells (decDigits u))[j]? = some (Value.int .u8 ((decDigits u)[j].toNat : Int)) := by simp [Lib.byteCells, hl]
      exact Option.some.inj (hj.symm.trans e1)
    subst hx
    rw [Lib.row_is_numeral hF j hl, Lib.add_plain, World.cell?_drewN]
    exact cell?_putRow (fun (b : UInt8) => Value.int .u8 (b.toNat : Int)) _ w.heap.size 0 _ dk hz (by rw [hF.size, Array.size_replicate]) j (by rw [hF.size, ← Lib.decDigits_length]; exact hl)

set_option maxHeartbeats 4000000 in
theorem appUint_big (n u : Nat) (hu : 100 ≤ u) (h64 : u < 18446744073709551616) (p : Option Addr) (cap : Nat) (xs : List Value) (w : World) (hown : w.ownsRow 0 5 1 (.slice p n cap) n xs) (hlim : n ≤ 1048576) (ht : PowTab w) :
    Calls Tryf.prog 38 #[.slice p n cap, .int .u64 u, .int .i64 10] w (Appended n u (.slice p n cap) xs w) := by
  obtain ⟨i0, hi, hz0, hz1, hz2⟩ := info_parts info5
  have h20 : nDigits u ≤ 20 := by have := Lib.numDigits_eq u (by omega) h64; split at this <;> omega
  obtain ⟨nd, HD⟩ : ∃ v, Hid (nDigits u = v) := ⟨_, rfl⟩
  rw [HD.out] at h20
  have hal : Tryf.prog.arrayLen 70 = 24 := by kernel_rfl
  have hsl : ∀ W, (Instr.sliceAt 70 (.pointer (some ⟨w.heap.size, 0, none⟩)) none (some (.int .i64 (nd : Int))) none).run Tryf.prog W = .ok (.slice (some ⟨w.heap.size, 0, none⟩) nd 24) W := fun W => by
    rw [run_sliceAt_array_h W 70 ⟨w.heap.size, 0, none⟩ (by simp [Program.arrayLen, Program.elem, Tryf.underlying70]) .i64 (nd : Int) (by omega) (by rw [hal]; omega)]
    go_simp
  have HN : Hid (Calls Tryf.prog 45 #[.int .u64 u] (w.alloc (.cells Lib.zeros24 70)) fun e w' => e = .returned (.int .i64 nd) ∧ w' = w.alloc (.cells Lib.zeros24 70)) := by
    have := numDigits_c u (by omega) h64 (w.alloc (.cells Lib.zeros24 70)) (Lib.tabIs_alloc ht _)
    rw [HD.out] at this
    exact this
  have HC : Hid (Calls Tryf.prog 46 #[.slice (some ⟨w.heap.size, 0, none⟩) nd 24, .int .u64 u] (w.alloc (.cells Lib.zeros24 70)) fun e w' => e = .returned (.tuple #[]) ∧ Digits u w w') := by
    have := fmt_c u (by rw [HD.out]; exact h20) h64 w
    rw [HD.out] at this
    exact this
  have HO := Lib.hid hown
  have iu : (100 : Int) ≤ (u : Int) := by omega
  clear hown ht hal
  go_enter Tryf.func38, Tryf.ntmps38
  go_wp2_with fail
  refine HN.out.mono ?_
  rintro e w1 ⟨rfl, rfl⟩
  go_wp2_with fail
  refine HC.out.mono ?_
  rintro e w1 ⟨rfl, hg, hcells⟩
  have HO1 := Lib.hid (HO.out.kept hg (by simp [Value.ownBlock]; cases p <;> simp))
  have HG := Lib.hid hg
  have HCe := Lib.hid hcells
  have L0 : Hid ((Lib.byteCells (decDigits u)).length = nd * 1) := by show _ = _; rw [Lib.byteCells_length, Lib.decDigits_length, HD.out, Nat.mul_one]
  have L2 : Hid (∀ x ∈ Lib.byteCells (decDigits u), x.oneCell' = true) := by
    intro x hx
    simp only [Lib.byteCells, List.mem_map] at hx
    obtain ⟨b, _, rfl⟩ := hx
    rfl
  have L3 : Hid (n + nd ≤ maxLen) := by show _ ≤ _; unfold maxLen; omega
  have L4 : Hid ((n + nd) * 1 ≤ 140737488355328) := by show _ ≤ _; omega
  clear hg hcells
  go_wp2_with (at_builtin; refine wpList_append_own _ rfl _ _ 22 rfl 0 5 i0 (.int .u8 0) 1 1 Tryf.underlying22 hi hz0 hz1 hz2 rfl (by decide) (.slice p n cap) n xs rfl HO1.out ⟨w.heap.size, 0, none⟩ nd 24 (Lib.byteCells (decDigits u)) rfl L0.out HCe.out L2.out L3.out L4.out (Nat.zero_le _) ?_; intro v' w2 hown' hgrow _; have HW := Lib.hid hown'; have HG2 := Lib.hid hgrow; clear hown' hgrow)
  go_ret
  refine ⟨_, rfl, ?_, ?_⟩
  · have h := HW.out
    rw [← HD.out] at h
    exact h
  · have h1 := HG.out
    have h2 := HG2.out
    exact ⟨h2.os.trans h1.os, h2.tape.trans h1.tape, h2.output.trans h1.output, Nat.le_trans h1.size h2.size, fun k hk hne => (h2.block k (Nat.lt_of_lt_of_le hk h1.size) hne).trans (h1.block k hk (by simp))⟩
theorem appUint (n u : Nat) (h64 : u < 18446744073709551616) (p : Option Addr) (cap : Nat) (xs : List Value) (w : World) (hown : w.ownsRow 0 5 1 (.slice p n cap) n xs) (hlim : n ≤ 1048576) (ht : PowTab w) :
    Calls Tryf.prog 38 #[.slice p n cap, .int .u64 u, .int .i64 10] w (Appended n u (.slice p n cap) xs w) := by
  by_cases hu : u < 100
  · exact appUint_small n u hu p cap xs w hown hlim
  · exact appUint_big n u (by omega) h64 p cap xs w hown hlim ht
theorem appInt_in (n u : Nat) (h63 : u ≤ 9223372036854775807) (p : Option Addr) (cap : Nat) (xs : List Value) (w : World) (hown : w.ownsRow 0 5 1 (.slice p n cap) n xs) (hlim : n ≤ 1048576) (ht : PowTab w) :
    Calls Tryf.prog 33 #[.slice p n cap, .int .i64 u, .int .i64 10] w (Appended n u (.slice p n cap) xs w) := by
  have H := Lib.hid (appUint n u (by omega) p cap xs w hown hlim ht)
  clear hown ht
  go_enter Tryf.func33, Tryf.ntmps33
  go_wp2_with fail
  refine H.out.mono ?_
  rintro e w' ⟨v', rfl, hq⟩
  have HQ := Lib.hid hq
  clear hq H
  go_wp2
  go_ret
  exact ⟨_, rfl, HQ.out⟩
theorem appInt_own (n u : Nat) (h63 : u ≤ 9223372036854775807) (p : Option Addr) (cap : Nat) (xs : List Value) (w : World) (hown : w.ownsRow 0 5 1 (.slice p n cap) n xs) (hlim : n ≤ 1048576) (ht : PowTab w) :
    Calls Tryf.prog 25 #[.slice p n cap, .int .i64 u, .int .i64 10] w (Appended n u (.slice p n cap) xs w) := by
  have H := Lib.hid (appInt_in n u h63 p cap xs w hown hlim ht)
  clear hown ht
  go_enter Tryf.func25, Tryf.ntmps25
  go_wp2_with fail
  refine H.out.mono ?_
  rintro e w' ⟨v', rfl, hq⟩
  have HQ := Lib.hid hq
  clear hq H
  go_wp2
  go_ret
  exact ⟨_, rfl, HQ.out⟩
end Go.Proofs.Qxb6613619aFmt
