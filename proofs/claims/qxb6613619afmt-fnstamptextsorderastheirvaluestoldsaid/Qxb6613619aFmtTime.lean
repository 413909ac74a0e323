/-
  THE WALK OF readTime.
-/
import Derived.Test.Qxb6613619aFmtLeaf2
import Derived.Deep.QuietTactic
import Derived.BigQuiet
import Derived.Deep.RegionWith
namespace Go.Proofs.Qxb6613619aFmt
open Go.RowKit Go.BigFrame

/-- A field of the text, read through a slice of its own. -/
theorem readDec_at (b o len cap i n : Nat) (x : Nat → Int) (w : World) (hn : n ≤ 6) (hl : i + n ≤ len) (hx : ∀ k, 0 ≤ x k ∧ x k ≤ 255)
    (hc : ∀ k, k < len → w.cell? ⟨b, o + k, none⟩ = some (.int .u8 (x k))) :
    Calls Tryf.prog 39 #[.slice (some ⟨b, o + i, none⟩) n cap] w fun e w' => e = .returned (.int .i64 (Cal.decV x i n)) ∧ w' = w :=
  readDec_c b (o + i) n cap i x w hn hx fun k hk => by rw [Nat.add_assoc]; exact hc (i + k) (by omega)

/-- .. inside a region that draws its order; what is read stands behind a letter. -/
theorem readDec_q (b o cap i n nq : Nat) (x : Nat → Int) (v : Int) (w : World) (hn : n ≤ 6) (hl : i + n ≤ 36) (hx : ∀ k, 0 ≤ x k ∧ x k ≤ 255)
    (hc : Hid (∀ k, k < 36 → w.cell? ⟨b, o + k, none⟩ = some (.int .u8 (x k)))) (hv : Hid (Cal.decV x i n = v)) :
    Calls Tryf.prog 39 #[.slice (some ⟨b, o + i, none⟩) n cap] (w.drewN nq) fun e w'' => e = .returned (.int .i64 v) ∧ ∃ m, w'' = w.drewN m := by
  rw [← hv.out]
  exact Calls.quiet_of_same (readDec_at b o 36 cap i n x _ hn hl hx fun k hk => by simpa using hc.out k hk)
theorem readDec_q0 (b o cap n nq : Nat) (x : Nat → Int) (v : Int) (w : World) (hn : n ≤ 6) (hx : ∀ k, 0 ≤ x k ∧ x k ≤ 255)
    (hc : Hid (∀ k, k < 36 → w.cell? ⟨b, o + k, none⟩ = some (.int .u8 (x k)))) (hv : Hid (Cal.decV x 0 n = v)) :
    Calls Tryf.prog 39 #[.slice (some ⟨b, o, none⟩) n cap] (w.drewN nq) fun e w'' => e = .returned (.int .i64 v) ∧ ∃ m, w'' = w.drewN m :=
  readDec_q b o cap 0 n nq x v w hn (by omega) hx hc hv

theorem readDec_v (b o cap i n : Nat) (x : Nat → Int) (v : Int) (w : World) (hn : n ≤ 6) (hl : i + n ≤ 36) (hx : ∀ k, 0 ≤ x k ∧ x k ≤ 255)
    (hc : Hid (∀ k, k < 36 → w.cell? ⟨b, o + k, none⟩ = some (.int .u8 (x k)))) (hv : Hid (Cal.decV x i n = v)) :
    Calls Tryf.prog 39 #[.slice (some ⟨b, o + i, none⟩) n cap] w fun e w' => e = .returned (.int .i64 v) ∧ w' = w := by
  rw [← hv.out]
  exact readDec_at b o 36 cap i n x _ hn hl hx hc.out

theorem dfy_v (y v : Int) (w : World) (h0 : 1 ≤ y) (h1 : y ≤ 10000) (hv : Hid (Cal.dfy y = v)) : Calls Tryf.prog 40 #[.int .i64 y] w fun e w' => e = .returned (.int .i64 v) ∧ w' = w := by
  rw [← hv.out]; exact dfy_c y w h0 h1
theorem dbm_v (m l v : Int) (w : World) (h0 : 1 ≤ m) (h1 : m ≤ 13) (h2 : 0 ≤ l) (h3 : l ≤ 1) (hv : Hid (Cal.dbm m l = v)) : Calls Tryf.prog 41 #[.int .i64 m, .int .i64 l] w fun e w' => e = .returned (.int .i64 v) ∧ w' = w := by
  rw [← hv.out]; exact dbm_c m l w h0 h1 h2 h3
/-- A time that is there, and its milliseconds; or none. -/
def TimeRel (Y M D h mi s ms R : Int) (ok : Bool) : Prop :=
  (ok = true ∧ (1970 ≤ Y ∧ 1 ≤ M ∧ M ≤ 12 ∧ 0 ≤ h ∧ h ≤ 23 ∧ 0 ≤ mi ∧ mi ≤ 59 ∧ 0 ≤ s ∧ s ≤ 59 ∧ 0 ≤ ms) ∧ 1 ≤ D ∧ D ≤ Cal.mdays M (Cal.leapB Y) ∧
    R = (Cal.d70 Y + Cal.dbm M (Cal.lp Y) + D - 1) * 86400000 + h * 3600000 + mi * 60000 + s * 1000 + ms) ∨
  (ok = false ∧ R = 0 ∧ ¬ ((1970 ≤ Y ∧ 1 ≤ M ∧ M ≤ 12 ∧ 0 ≤ h ∧ h ≤ 23 ∧ 0 ≤ mi ∧ mi ≤ 59 ∧ 0 ≤ s ∧ s ≤ 59 ∧ 0 ≤ ms) ∧ 1 ≤ D ∧ D ≤ Cal.mdays M (Cal.leapB Y)))

def TimePost (Y M D h mi s ms : Int) (w : World) (e : Ending) (w' : World) : Prop :=
  ∃ R ok, e = .returned (.tuple #[.int .i64 R, .bool ok]) ∧ TimeRel Y M D h mi s ms R ok ∧ ∃ n, w' = w.drewN n

set_option maxRecDepth 100000 in
set_option maxHeartbeats 1000000 in
theorem time_core (b o cap : Nat) (x : Nat → Int) (w : World) (Y M D h mi s ms : Int) (hcap : 36 ≤ cap) (hx : ∀ k, 0 ≤ x k ∧ x k ≤ 255)
    (HC : Hid (∀ k, k < 36 → w.cell? ⟨b, o + k, none⟩ = some (.int .u8 (x k))))
    (HY : Hid (Cal.decV x 0 4 = Y)) (HM : Hid (Cal.decV x 5 2 = M)) (HD : Hid (Cal.decV x 8 2 = D)) (Hh : Hid (Cal.decV x 11 2 = h)) (Hm : Hid (Cal.decV x 14 2 = mi)) (Hs : Hid (Cal.decV x 17 2 = s)) (Hms : Hid (Cal.decV x 20 3 = ms))
    (s4 : x 4 = 45) (s7 : x 7 = 45) (s10 : x 10 = 84) (s13 : x 13 = 58) (s16 : x 16 = 58) (s19 : x 19 = 46) (s23 : x 23 = 90)
    (y2 : Y ≤ 9999) (d2 : D ≤ 99) (d3 : -1 ≤ D) (l2 : ms ≤ 999) :
    Calls Tryf.prog 34 #[.slice (some ⟨b, o, none⟩) 24 cap] w (TimePost Y M D h mi s ms w) := by
  have q4 : (4 : Int) ≤ (cap : Int) := by omega
  have q7 : (7 : Int) ≤ (cap : Int) := by omega
  have q10 : (10 : Int) ≤ (cap : Int) := by omega
  have q13 : (13 : Int) ≤ (cap : Int) := by omega
  have q16 : (16 : Int) ≤ (cap : Int) := by omega
  have q19 : (19 : Int) ≤ (cap : Int) := by omega
  have q23 : (23 : Int) ≤ (cap : Int) := by omega
  have c4 := HC.out 4 (by omega)
  have c7 := HC.out 7 (by omega)
  have c10 := HC.out 10 (by omega)
  have c13 := HC.out 13 (by omega)
  have c16 := HC.out 16 (by omega)
  have c19 := HC.out 19 (by omega)
  have c23 := HC.out 23 (by omega)
  rw [s4] at c4; rw [s7] at c7; rw [s10] at c10; rw [s13] at c13; rw [s16] at c16; rw [s19] at c19; rw [s23] at c23
  clear s4 s7 s10 s13 s16 s19 s23
  go_enter Tryf.func34, Tryf.ntmps34
  go_wp2_with fail
  refine wp_region_quiet_lit (by kernel_rfl) (by kernel_rfl) ?_
  go_big_quiet_step (fail)
  go_big_quiet_step (fail)
  go_big_quiet_step ((refine readDec_q0 b o _ 4 _ x Y _ (by omega) hx ?_ HY; exact HC))
  go_big_quiet_step (fail)
  go_big_quiet_step (fail)
  go_big_quiet_step ((refine readDec_q b o _ 5 2 _ x M _ (by omega) (by omega) hx ?_ HM; exact HC))
  go_big_quiet_step (fail)
  go_big_quiet_step (fail)
  go_big_quiet_step ((refine readDec_q b o _ 8 2 _ x D _ (by omega) (by omega) hx ?_ HD; exact HC))
  go_big_quiet_step (fail)
  go_big_quiet_step (fail)
  go_big_quiet_step (fail)
  refine wpQuiet_nil ?_
  rintro _ ⟨nq, rfl⟩
  have HC1 : Hid (∀ k, k < 36 → (w.drewN nq).cell? ⟨b, o + k, none⟩ = some (.int .u8 (x k))) := HC.out
  clear c4 c7 c10 c13 c16 c19 c23
  generalize hw1 : w.drewN nq = w1 at HC1 ⊢
  have HW1 : Hid (w.drewN nq = w1) := hw1
  clear hw1
  go_wp2_with fail
  refine wp_region_quiet_lit (by kernel_rfl) (by kernel_rfl) ?_
  go_big_quiet_step (fail)
  go_big_quiet_step (fail)
  go_big_quiet_step ((refine readDec_q b o _ 11 2 _ x h _ (by omega) (by omega) hx ?_ Hh; exact HC1))
  go_big_quiet_step (fail)
  go_big_quiet_step (fail)
  go_big_quiet_step ((refine readDec_q b o _ 14 2 _ x mi _ (by omega) (by omega) hx ?_ Hm; exact HC1))
  go_big_quiet_step (fail)
  go_big_quiet_step (fail)
  go_big_quiet_step ((refine readDec_q b o _ 17 2 _ x s _ (by omega) (by omega) hx ?_ Hs; exact HC1))
  go_big_quiet_step (fail)
  go_big_quiet_step (fail)
  go_big_quiet_step (fail)
  refine wpQuiet_nil ?_
  rintro _ ⟨nr, rfl⟩
  go_wp2_with fail
  have HC2 : Hid (∀ k, k < 36 → (w1.drewN nr).cell? ⟨b, o + k, none⟩ = some (.int .u8 (x k))) := HC1.out
  generalize hw2 : w1.drewN nr = w2 at HC2 ⊢
  have HW2 : Hid (w1.drewN nr = w2) := hw2
  clear hw2
  refine (readDec_v b o _ 20 3 x ms _ (by omega) (by omega) hx HC2 Hms).mono ?_
  rintro e w' ⟨rfl, rfl⟩
  have HW : Hid (∃ n, w' = w.drewN n) := ⟨nq + nr, by rw [← HW2.out, ← HW1.out, World.drewN_drewN]⟩
  clear HC HC1 HC2 HY HM HD Hh Hm Hs Hms
  by_cases hv : 1970 ≤ Y ∧ 1 ≤ M ∧ M ≤ 12 ∧ 0 ≤ h ∧ h ≤ 23 ∧ 0 ≤ mi ∧ mi ≤ 59 ∧ 0 ≤ s ∧ s ≤ 59 ∧ 0 ≤ ms
  · obtain ⟨y1, m1, m2, h1, h2, n1, n2, z1, z2, l1⟩ := hv
    obtain ⟨f0, HF0⟩ : ∃ v, Hid (Cal.dfy Y = v) := ⟨_, rfl⟩
    obtain ⟨f1, HF1⟩ : ∃ v, Hid (Cal.dfy (Y + 1) = v) := ⟨_, rfl⟩
    have hb0 : 0 ≤ f0 ∧ f0 ≤ 3652425 := HF0.out ▸ Cal.dfy_bd Y (by omega) (by omega)
    have hb1 : 0 ≤ f1 ∧ f1 ≤ 3652425 := HF1.out ▸ Cal.dfy_bd (Y + 1) (by omega) (by omega)
    have E1 : Hid (f1 - f0 - 365 = Cal.lp Y) := by have := Cal.dfy_succ Y; rw [HF0.out, HF1.out] at this; show _ = _; omega
    have hl0 : 0 ≤ f1 - f0 - 365 := by rw [E1.out]; exact (Cal.lp_01 Y).1
    have hl1 : f1 - f0 - 365 ≤ 1 := by rw [E1.out]; exact (Cal.lp_01 Y).2
    obtain ⟨g0, HG0⟩ : ∃ v, Hid (Cal.dbm M (f1 - f0 - 365) = v) := ⟨_, rfl⟩
    obtain ⟨g1, HG1⟩ : ∃ v, Hid (Cal.dbm (M + 1) (f1 - f0 - 365) = v) := ⟨_, rfl⟩
    have hg0 : 0 ≤ g0 ∧ g0 ≤ 366 := HG0.out ▸ Cal.dbm_bd M _ (by omega) (by omega) hl0 hl1
    have hg1 : 0 ≤ g1 ∧ g1 ≤ 366 := HG1.out ▸ Cal.dbm_bd (M + 1) _ (by omega) (by omega) hl0 hl1
    have E2 : Hid (g1 - g0 = Cal.mdays M (Cal.leapB Y)) := by
      have := Cal.dbm_succ M Y m1 m2
      rw [← E1.out, HG0.out, HG1.out] at this; show _ = _; omega
    go_wp2_with fail
    refine (dfy_v Y f0 _ (by omega) (by omega) HF0).mono ?_
    rintro e w'' ⟨rfl, rfl⟩
    go_wp2_with fail
    refine (dfy_v (Y + 1) f1 _ (by omega) (by omega) HF1).mono ?_
    rintro e w' ⟨rfl, rfl⟩
    go_wp2_with fail
    refine (dbm_v M (f1 - f0 - 365) g0 _ (by omega) (by omega) (by omega) (by omega) HG0).mono ?_
    rintro e w'' ⟨rfl, rfl⟩
    by_cases hd1 : D < 1
    · go_wp2_with fail
      go_ret2
      exact ⟨0, false, rfl, Or.inr ⟨rfl, rfl, by omega⟩, HW.out⟩
    · go_wp2_with fail
      refine (dbm_v (M + 1) (f1 - f0 - 365) g1 _ (by omega) (by omega) (by omega) (by omega) HG1).mono ?_
      rintro e w' ⟨rfl, rfl⟩
      by_cases hd2 : g1 - g0 < D
      · go_wp2_with fail
        go_ret2
        exact ⟨0, false, rfl, Or.inr ⟨rfl, rfl, by rw [← E2.out]; omega⟩, HW.out⟩
      · go_wp2_with fail
        refine (dfy_v 1970 719162 _ (by omega) (by omega) Cal.dfy_1970).mono ?_
        rintro e w'' ⟨rfl, rfl⟩
        go_wp2_with fail
        go_ret2
        refine ⟨_, true, rfl, Or.inl ⟨rfl, ⟨y1, m1, m2, h1, h2, n1, n2, z1, z2, l1⟩, by omega, by rw [← E2.out]; omega, ?_⟩, HW.out⟩
        unfold Cal.d70
        rw [HF0.out, ← E1.out, HG0.out]
        go_light
        omega
  · go_wp2_with fail
    all_goals first
      | (go_ret2; exact ⟨0, false, rfl, Or.inr ⟨rfl, rfl, by go_light; omega⟩, HW.out⟩)
      | (exfalso; go_light; omega)
end Go.Proofs.Qxb6613619aFmt
