/-
  THE WALK OF zzReadStamp, where the separators stand.
-/
import Derived.Test.Qxb6613619aFmtRead
namespace Go.Proofs.Qxb6613619aFmt
open Go.RowKit

theorem leap_v (y : Int) (L : Bool) (w : World) (h0 : 0 ≤ y) (h1 : y ≤ 10000) (hv : Hid (Cal.leapB y = L)) : Calls Tryf.prog 30 #[.int .i64 y] w fun e w' => e = .returned (.bool L) ∧ w' = w := by
  rw [← hv.out]; exact leap_c y w h0 h1
theorem mdays_v (m : Int) (l : Bool) (v : Int) (w : World) (hv : Hid (Cal.mdays m l = v)) : Calls Tryf.prog 31 #[.int .i64 m, .bool l] w fun e w' => e = .returned (.int .i64 v) ∧ w' = w := by
  rw [← hv.out]; exact mdays_c m l w
theorem d70_bd (y : Int) (h0 : 1970 ≤ y) (h1 : y ≤ 10000) : 0 ≤ Cal.d70 y ∧ Cal.d70 y ≤ 3652425 := by
  unfold Cal.d70 Cal.dfy; omega

def RdOut (Y M D h mi s ms C N : Int) (ky km kd kh kmi ks kms kc kn : Bool) (w : World) (e : Ending) (w' : World) : Prop :=
  ((ky && km && kd && kh && kmi && ks && kms && kc && kn && decide (1970 ≤ Y ∧ 1 ≤ M ∧ M ≤ 12 ∧ 1 ≤ D ∧ D ≤ Cal.mdays M (Cal.leapB Y) ∧ h ≤ 23 ∧ mi ≤ 59 ∧ s ≤ 59)) = true ∧
    e = .returned (.tuple #[.int .i64 ((Cal.d70 Y + Cal.dbm M (Cal.lp Y) + D - 1) * 86400000 + h * 3600000 + mi * 60000 + s * 1000 + ms), .int .i64 C, .int .i64 N, .bool true]) ∧ w' = w) ∨
  ((ky && km && kd && kh && kmi && ks && kms && kc && kn && decide (1970 ≤ Y ∧ 1 ≤ M ∧ M ≤ 12 ∧ 1 ≤ D ∧ D ≤ Cal.mdays M (Cal.leapB Y) ∧ h ≤ 23 ∧ mi ≤ 59 ∧ s ≤ 59)) = false ∧ RdNo w e w')

set_option maxRecDepth 100000 in
set_option maxHeartbeats 2000000 in
theorem rd_main (b o cap : Nat) (x : Nat → Int) (w : World) (Y M D h mi s ms C N : Int) (ky km kd kh kmi ks kms kc kn : Bool) (hx : ∀ k, 0 ≤ x k ∧ x k ≤ 255) (HC : Hid (∀ k, k < 36 → w.cell? ⟨b, o + k, none⟩ = some (.int .u8 (x k))))
    (s4 : x 4 = 45) (s7 : x 7 = 45) (s10 : x 10 = 84) (s13 : x 13 = 58) (s16 : x 16 = 58) (s19 : x 19 = 46) (s23 : x 23 = 90) (s24 : x 24 = 45) (s29 : x 29 = 45)
    (VY : Hid ((Cal.decN x 0 4 0).getD 0 = Y)) (KY : Hid ((Cal.decN x 0 4 0).isSome = ky)) (VM : Hid ((Cal.decN x 5 2 0).getD 0 = M)) (KM : Hid ((Cal.decN x 5 2 0).isSome = km)) (VD : Hid ((Cal.decN x 8 2 0).getD 0 = D)) (KD : Hid ((Cal.decN x 8 2 0).isSome = kd)) (Vh : Hid ((Cal.decN x 11 2 0).getD 0 = h)) (Kh : Hid ((Cal.decN x 11 2 0).isSome = kh)) (Vmi : Hid ((Cal.decN x 14 2 0).getD 0 = mi)) (Kmi : Hid ((Cal.decN x 14 2 0).isSome = kmi)) (Vs : Hid ((Cal.decN x 17 2 0).getD 0 = s)) (Ks : Hid ((Cal.decN x 17 2 0).isSome = ks)) (Vms : Hid ((Cal.decN x 20 3 0).getD 0 = ms)) (Kms : Hid ((Cal.decN x 20 3 0).isSome = kms)) (VC : Hid ((Cal.hexN x 25 4 0).getD 0 = C)) (KC : Hid ((Cal.hexN x 25 4 0).isSome = kc)) (VN : Hid ((Cal.hexN x 30 6 0).getD 0 = N)) (KN : Hid ((Cal.hexN x 30 6 0).isSome = kn))
    (y0 : 0 ≤ Y) (y1 : Y ≤ 9999) (m0 : 0 ≤ M) (m1 : M ≤ 99) (d0 : 0 ≤ D) (d1 : D ≤ 99) (h0 : 0 ≤ h) (h1 : h ≤ 99) (i0 : 0 ≤ mi) (i1 : mi ≤ 99) (t0 : 0 ≤ s) (t1 : s ≤ 99) (l0 : 0 ≤ ms) (l1 : ms ≤ 999) :
    Calls Tryf.prog 20 #[.slice (some ⟨b, o, none⟩) 36 cap] w (RdOut Y M D h mi s ms C N ky km kd kh kmi ks kms kc kn w) := by
  have c4 := HC.out 4 (by omega)
  have c7 := HC.out 7 (by omega)
  have c10 := HC.out 10 (by omega)
  have c13 := HC.out 13 (by omega)
  have c16 := HC.out 16 (by omega)
  have c19 := HC.out 19 (by omega)
  have c23 := HC.out 23 (by omega)
  have c24 := HC.out 24 (by omega)
  have c29 := HC.out 29 (by omega)
  rw [s4] at c4; rw [s7] at c7; rw [s10] at c10; rw [s13] at c13; rw [s16] at c16; rw [s19] at c19; rw [s23] at c23; rw [s24] at c24; rw [s29] at c29
  clear s4 s7 s10 s13 s16 s19 s23 s24 s29
  go_enter Tryf.func20, Tryf.ntmps20
  go_wp2_with fail
  refine (zzDec_v b o cap 0 4 _ _ x Y ky _ (by omega) (by omega) (by omega) (by omega) hx HC VY KY).mono ?_
  rintro e w' ⟨rfl, rfl⟩
  go_wp2_with fail
  refine (zzDec_v b o cap 5 2 _ _ x M km _ (by omega) (by omega) (by omega) (by omega) hx HC VM KM).mono ?_
  rintro e w' ⟨rfl, rfl⟩
  go_wp2_with fail
  refine (zzDec_v b o cap 8 2 _ _ x D kd _ (by omega) (by omega) (by omega) (by omega) hx HC VD KD).mono ?_
  rintro e w' ⟨rfl, rfl⟩
  go_wp2_with fail
  refine (zzDec_v b o cap 11 2 _ _ x h kh _ (by omega) (by omega) (by omega) (by omega) hx HC Vh Kh).mono ?_
  rintro e w' ⟨rfl, rfl⟩
  go_wp2_with fail
  refine (zzDec_v b o cap 14 2 _ _ x mi kmi _ (by omega) (by omega) (by omega) (by omega) hx HC Vmi Kmi).mono ?_
  rintro e w' ⟨rfl, rfl⟩
  go_wp2_with fail
  refine (zzDec_v b o cap 17 2 _ _ x s ks _ (by omega) (by omega) (by omega) (by omega) hx HC Vs Ks).mono ?_
  rintro e w' ⟨rfl, rfl⟩
  go_wp2_with fail
  refine (zzDec_v b o cap 20 3 _ _ x ms kms _ (by omega) (by omega) (by omega) (by omega) hx HC Vms Kms).mono ?_
  rintro e w' ⟨rfl, rfl⟩
  go_wp2_with fail
  refine (zzHex_v b o cap 25 4 _ _ x C kc _ (by omega) (by omega) (by omega) (by omega) hx HC VC KC).mono ?_
  rintro e w' ⟨rfl, rfl⟩
  go_wp2_with fail
  refine (zzHex_v b o cap 30 6 _ _ x N kn _ (by omega) (by omega) (by omega) (by omega) hx HC VN KN).mono ?_
  rintro e w' ⟨rfl, rfl⟩
  by_cases hk : (ky && km && kd && kh && kmi && ks && kms && kc && kn) = true
  · simp only [Bool.and_eq_true] at hk
    obtain ⟨⟨⟨⟨⟨⟨⟨⟨rfl, rfl⟩, rfl⟩, rfl⟩, rfl⟩, rfl⟩, rfl⟩, rfl⟩, rfl⟩ := hk
    obtain ⟨L, HL⟩ : ∃ v, Hid (Cal.leapB Y = v) := ⟨_, rfl⟩
    obtain ⟨md, HMD⟩ : ∃ v, Hid (Cal.mdays M L = v) := ⟨_, rfl⟩
    have hmd : 0 ≤ md ∧ md ≤ 31 := HMD.out ▸ Cal.mdays_bd M L
    clear VY VM VD Vh Vmi Vs Vms VC VN KY KM KD Kh Kmi Ks Kms KC KN c4 c7 c10 c13 c16 c19 c23 c24 c29 HC
    go_wp2_with fail
    refine (leap_v Y L _ (by omega) (by omega) HL).mono ?_
    rintro e w'' ⟨rfl, rfl⟩
    by_cases hv : 1970 ≤ Y ∧ 1 ≤ M ∧ M ≤ 12 ∧ 1 ≤ D ∧ D ≤ md ∧ h ≤ 23 ∧ mi ≤ 59 ∧ s ≤ 59
    · obtain ⟨g1, g2, g3, g4, g5, g6, g7, g8⟩ := hv
      go_wp2_with (go_at_call 31; refine (mdays_v M L md _ HMD).mono ?_; rintro e w' ⟨rfl, rfl⟩)
      go_loop [25, 26] (fun dd yy => ∃ y : Int, 1970 ≤ y ∧ y ≤ Y ∧ yy = .int .i64 y ∧ dd = .int .i64 (Cal.d70 y)) (fun _ yy => (Y - intOf yy).toNat)
      case atStart => exact ⟨1970, by omega, by omega, rfl, by rw [Cal.d70_start]⟩
      case round =>
        obtain ⟨y, hy1, hy2, rfl, rfl⟩ := hrel
        have hdb := d70_bd y (by omega) (by omega)
        by_cases hlt : y < Y
        · have HS : Hid (Cal.d70 (y + 1) = Cal.d70 y + 365 + Cal.lp y) := Cal.d70_succ y
          have HLP : Hid (Cal.lp y = if Cal.leapB y then 1 else 0) := Cal.lp_of y
          obtain ⟨Ly, HLy⟩ : ∃ v, Hid (Cal.leapB y = v) := ⟨_, rfl⟩
          generalize Cal.d70 y = dy at *
          cases Ly
          all_goals
            go_wp2_with (go_at_call 30; refine (leap_v y _ _ (by omega) (by omega) HLy).mono ?_; rintro e w' ⟨rfl, rfl⟩)
            go_round
            case rel => exact ⟨y + 1, by omega, by omega, rfl, by rw [HS.out, HLP.out, HLy.out]; simp⟩
            case measure => simp [intOf]; omega
        · obtain rfl : y = Y := by omega
          obtain ⟨ly, HLY⟩ : ∃ v, Hid (Cal.lp y = v) := ⟨_, rfl⟩
          have hly : 0 ≤ ly ∧ ly ≤ 1 := HLY.out ▸ Cal.lp_01 y
          obtain ⟨dy, HDY⟩ : ∃ v, Hid (Cal.d70 y = v) := ⟨_, rfl⟩
          rw [HDY.out] at hdb ⊢
          go_wp2_with fail
          go_loop [25, 27] (fun dd mm => ∃ m : Int, 1 ≤ m ∧ m ≤ M ∧ mm = .int .i64 m ∧ dd = .int .i64 (dy + Cal.dbm m ly)) (fun _ mm => (M - intOf mm).toNat)
          case atStart => exact ⟨1, by omega, by omega, rfl, by simp [Cal.dbm]⟩
          case round =>
            obtain ⟨m, hm1, hm2, rfl, rfl⟩ := hrel
            have hmb := Cal.dbm_bd m ly (by omega) (by omega) hly.1 hly.2
            by_cases hlm : m < M
            · obtain ⟨dm, HDM⟩ : ∃ v, Hid (Cal.mdays m L = v) := ⟨_, rfl⟩
              have hdm : 0 ≤ dm ∧ dm ≤ 31 := HDM.out ▸ Cal.mdays_bd m L
              have HS : Hid (Cal.dbm (m + 1) ly = Cal.dbm m ly + dm) := by
                have := Cal.dbm_succ m y hm1 (by omega)
                rw [HLY.out, HL.out, HDM.out] at this
                exact this
              generalize Cal.dbm m ly = bm at *
              go_wp2_with (go_at_call 31; refine (mdays_v m L dm _ HDM).mono ?_; rintro e w' ⟨rfl, rfl⟩)
              go_round
              case rel => exact ⟨m + 1, by omega, by omega, rfl, by rw [HS.out, Int.add_assoc]⟩
              case measure => simp [intOf]; omega
            · obtain rfl : m = M := by omega
              obtain ⟨bm, HBM⟩ : ∃ v, Hid (Cal.dbm m ly = v) := ⟨_, rfl⟩
              rw [HBM.out] at hmb ⊢
              go_wp2_with fail
              refine bodyPost_ret (v := .tuple #[.int .i64 ((dy + bm + (D - 1)) * 86400000 + h * 3600000 + mi * 60000 + s * 1000 + ms), .int .i64 C, .int .i64 N, .bool true]) (by simp [results, Tryf.results20, go_sem]) rfl (Or.inl ⟨?_, ?_, rfl⟩)
              · simp only [Bool.true_and, decide_eq_true_eq]
                rw [HL.out, HMD.out]
                exact ⟨hy1, hm1, g3, g4, g5, g6, g7, g8⟩
              · rw [HDY.out, HLY.out, HBM.out, Int.add_sub_assoc]
    · have HV : Hid (¬ (1970 ≤ Y ∧ 1 ≤ M ∧ M ≤ 12 ∧ 1 ≤ D ∧ D ≤ Cal.mdays M (Cal.leapB Y) ∧ h ≤ 23 ∧ mi ≤ 59 ∧ s ≤ 59)) := by rw [HL.out, HMD.out]; exact hv
      go_wp2_with (go_at_call 31; refine (mdays_v M L md _ HMD).mono ?_; rintro e w' ⟨rfl, rfl⟩)
      all_goals first
        | exact bodyPost_ret (v := .tuple #[.int .i64 0, .int .i64 0, .int .i64 0, .bool false]) (by simp [results, Tryf.results20, go_sem]) rfl (Or.inr ⟨by simp only [Bool.true_and, decide_eq_false_iff_not]; exact HV.out, rfl, rfl⟩)
        | (exfalso; go_light; omega)
  · have hk' : (ky = false) ∨ (ky = true ∧ km = false) ∨ (ky = true ∧ km = true ∧ kd = false) ∨ (ky = true ∧ km = true ∧ kd = true ∧ kh = false) ∨ (ky = true ∧ km = true ∧ kd = true ∧ kh = true ∧ kmi = false) ∨ (ky = true ∧ km = true ∧ kd = true ∧ kh = true ∧ kmi = true ∧ ks = false) ∨ (ky = true ∧ km = true ∧ kd = true ∧ kh = true ∧ kmi = true ∧ ks = true ∧ kms = false) ∨ (ky = true ∧ km = true ∧ kd = true ∧ kh = true ∧ kmi = true ∧ ks = true ∧ kms = true ∧ kc = false) ∨ (ky = true ∧ km = true ∧ kd = true ∧ kh = true ∧ kmi = true ∧ ks = true ∧ kms = true ∧ kc = true ∧ kn = false) := by
      cases ky <;> cases km <;> cases kd <;> cases kh <;> cases kmi <;> cases ks <;> cases kms <;> cases kc <;> cases kn <;> simp at hk ⊢
    clear hk
    clear VY VM VD Vh Vmi Vs Vms VC VN KY KM KD Kh Kmi Ks Kms KC KN c4 c7 c10 c13 c16 c19 c23 c24 c29 HC
    rcases hk' with rfl | ⟨rfl, rfl⟩ | ⟨rfl, rfl, rfl⟩ | ⟨rfl, rfl, rfl, rfl⟩ | ⟨rfl, rfl, rfl, rfl, rfl⟩ | ⟨rfl, rfl, rfl, rfl, rfl, rfl⟩ | ⟨rfl, rfl, rfl, rfl, rfl, rfl, rfl⟩ | ⟨rfl, rfl, rfl, rfl, rfl, rfl, rfl, rfl⟩ | ⟨rfl, rfl, rfl, rfl, rfl, rfl, rfl, rfl, rfl⟩
    all_goals
      go_wp2_with fail
      exact bodyPost_ret (v := .tuple #[.int .i64 0, .int .i64 0, .int .i64 0, .bool false]) (by simp [results, Tryf.results20, go_sem]) rfl (Or.inr ⟨rfl, rfl, rfl⟩)
end Go.Proofs.Qxb6613619aFmt
