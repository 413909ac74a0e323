/-
  THE WALK OF readTime where a separator is not in its place.
-/
import Derived.Test.Qxb6613619aFmtTime
namespace Go.Proofs.Qxb6613619aFmt
open Go.RowKit Go.BigFrame

def TimeNo (w : World) (e : Ending) (w' : World) : Prop := e = .returned (.tuple #[.int .i64 0, .bool false]) ∧ ∃ n, w' = w.drewN n

set_option maxRecDepth 100000 in
set_option maxHeartbeats 2000000 in
theorem time_sep (b o cap : Nat) (x : Nat → Int) (w : World) (Y M D h mi s ms : Int) (hcap : 36 ≤ cap) (hx : ∀ k, 0 ≤ x k ∧ x k ≤ 255)
    (HC : Hid (∀ k, k < 36 → w.cell? ⟨b, o + k, none⟩ = some (.int .u8 (x k))))
    (HY : Hid (Cal.decV x 0 4 = Y)) (HM : Hid (Cal.decV x 5 2 = M)) (HD : Hid (Cal.decV x 8 2 = D)) (Hh : Hid (Cal.decV x 11 2 = h)) (Hm : Hid (Cal.decV x 14 2 = mi)) (Hs : Hid (Cal.decV x 17 2 = s)) (Hms : Hid (Cal.decV x 20 3 = ms))
    (hsep : Cal.sepT x = false) :
    Calls Tryf.prog 34 #[.slice (some ⟨b, o, none⟩) 24 cap] w (TimeNo w) := by
  have q4 : (4 : Int) ≤ (cap : Int) := by omega
  have q7 : (7 : Int) ≤ (cap : Int) := by omega
  have q10 : (10 : Int) ≤ (cap : Int) := by omega
  have q13 : (13 : Int) ≤ (cap : Int) := by omega
  have q16 : (16 : Int) ≤ (cap : Int) := by omega
  have q19 : (19 : Int) ≤ (cap : Int) := by omega
  have q23 : (23 : Int) ≤ (cap : Int) := by omega
  have c4 := HC.out 4 (by omega)
  have c7 := HC.out 7 (by omega)
  have c10 := HC.out 10 (by omega)
  have c13 := HC.out 13 (by omega)
  have c16 := HC.out 16 (by omega)
  have c19 := HC.out 19 (by omega)
  have c23 := HC.out 23 (by omega)
  have hs : (x 4 == 45) = false ∨ ((x 4 == 45) = true ∧ (x 7 == 45) = false) ∨ ((x 4 == 45) = true ∧ (x 7 == 45) = true ∧ (x 10 == 84) = false) ∨ ((x 4 == 45) = true ∧ (x 7 == 45) = true ∧ (x 10 == 84) = true ∧ (x 13 == 58) = false) ∨
      ((x 4 == 45) = true ∧ (x 7 == 45) = true ∧ (x 10 == 84) = true ∧ (x 13 == 58) = true ∧ (x 16 == 58) = false) ∨ ((x 4 == 45) = true ∧ (x 7 == 45) = true ∧ (x 10 == 84) = true ∧ (x 13 == 58) = true ∧ (x 16 == 58) = true ∧ (x 19 == 46) = false) ∨
      ((x 4 == 45) = true ∧ (x 7 == 45) = true ∧ (x 10 == 84) = true ∧ (x 13 == 58) = true ∧ (x 16 == 58) = true ∧ (x 19 == 46) = true ∧ (x 23 == 90) = false) := by
    unfold Cal.sepT at hsep
    simp only [decide_eq_false_iff_not] at hsep
    simp only [beq_iff_eq, beq_eq_false_iff_ne, ne_eq]
    omega
  clear hsep
  rcases hs with t4 | ⟨t4, t7⟩ | ⟨t4, t7, t10⟩ | ⟨t4, t7, t10, t13⟩ | ⟨t4, t7, t10, t13, t16⟩ | ⟨t4, t7, t10, t13, t16, t19⟩ | ⟨t4, t7, t10, t13, t16, t19, t23⟩
  all_goals
    go_enter Tryf.func34, Tryf.ntmps34
    go_wp2_with fail
    refine wp_region_quiet_lit (by kernel_rfl) (by kernel_rfl) ?_
    go_big_quiet_step (fail)
    go_big_quiet_step (fail)
    go_big_quiet_step ((refine readDec_q0 b o _ 4 _ x Y _ (by omega) hx ?_ HY; exact HC))
    go_big_quiet_step (fail)
    go_big_quiet_step (fail)
    go_big_quiet_step ((refine readDec_q b o _ 5 2 _ x M _ (by omega) (by omega) hx ?_ HM; exact HC))
    go_big_quiet_step (fail)
    go_big_quiet_step (fail)
    go_big_quiet_step ((refine readDec_q b o _ 8 2 _ x D _ (by omega) (by omega) hx ?_ HD; exact HC))
    go_big_quiet_step (fail)
    go_big_quiet_step (fail)
    go_big_quiet_step (fail)
    refine wpQuiet_nil ?_
    rintro _ ⟨nq, rfl⟩
    have HC1 : Hid (∀ k, k < 36 → (w.drewN nq).cell? ⟨b, o + k, none⟩ = some (.int .u8 (x k))) := HC.out
    generalize hw1 : w.drewN nq = w1 at HC1 ⊢
    have HW1 : Hid (w.drewN nq = w1) := hw1
    clear hw1
    go_wp2_with fail
    refine wp_region_quiet_lit (by kernel_rfl) (by kernel_rfl) ?_
    go_big_quiet_step (fail)
    go_big_quiet_step (fail)
    go_big_quiet_step ((refine readDec_q b o _ 11 2 _ x h _ (by omega) (by omega) hx ?_ Hh; exact HC1))
    go_big_quiet_step (fail)
    go_big_quiet_step (fail)
    go_big_quiet_step ((refine readDec_q b o _ 14 2 _ x mi _ (by omega) (by omega) hx ?_ Hm; exact HC1))
    go_big_quiet_step (fail)
    go_big_quiet_step (fail)
    go_big_quiet_step ((refine readDec_q b o _ 17 2 _ x s _ (by omega) (by omega) hx ?_ Hs; exact HC1))
    go_big_quiet_step (fail)
    go_big_quiet_step (fail)
    go_big_quiet_step (fail)
    refine wpQuiet_nil ?_
    rintro _ ⟨nr, rfl⟩
    go_wp2_with fail
    have HC2 : Hid (∀ k, k < 36 → (w1.drewN nr).cell? ⟨b, o + k, none⟩ = some (.int .u8 (x k))) := HC1.out
    generalize hw2 : w1.drewN nr = w2 at HC2 ⊢
    have HW2 : Hid (w1.drewN nr = w2) := hw2
    clear hw2
    refine (readDec_v b o _ 20 3 x ms _ (by omega) (by omega) hx HC2 Hms).mono ?_
    rintro e w' ⟨rfl, rfl⟩
    have HW : Hid (∃ n, w' = w.drewN n) := ⟨nq + nr, by rw [← HW2.out, ← HW1.out, World.drewN_drewN]⟩
    go_wp2_with fail
    go_ret2
    exact ⟨rfl, HW.out⟩
end Go.Proofs.Qxb6613619aFmt
