/- The spec's calendar: leap, length, Days, Date, weekday, work. The spec's calendar: ClosestDay, lastWork, among. The spec's dayTime: the first second of a day, from one on. -/
import Derived.Test.YtmaffdhcmdhjfaaGreatDoorNL
import Derived.Test.YtmaffdhcmdhjfaaGreatDoorNB
import Derived.IntWalk
set_option linter.unusedSimpArgs false
set_option linter.unusedVariables false
namespace Go.Proofs.YtmaffdhcmdhjfaaGreatDoor
open Go.RowKit Go.Lib
set_option maxHeartbeats 1600000 in
set_option maxRecDepth 1000000 in
theorem sp_leap (y : Int) (y0 : 0 ≤ y) (y1 : y ≤ 1000000) (w : World) :
 Calls Tryz.prog 67 #[.int .i64 y] w fun e w' => e = .returned (.bool (Cal.leap y)) ∧ w = w' := by
 have t1 : y.tmod 4 = y % 4 := Int.tmod_eq_emod_of_nonneg y0
 have t2 : y.tmod 100 = y % 100 := Int.tmod_eq_emod_of_nonneg y0
 have t3 : y.tmod 400 = y % 400 := Int.tmod_eq_emod_of_nonneg y0
 have HL := Lib.hid (Cal.leap_iff y)
 obtain ⟨a, ha⟩ : ∃ a, a = y % 4 := ⟨_, rfl⟩
 obtain ⟨b, hb⟩ : ∃ b, b = y % 100 := ⟨_, rfl⟩
 obtain ⟨c, hc⟩ : ∃ c, c = y % 400 := ⟨_, rfl⟩
 have a1 : 0 ≤ a ∧ a ≤ 3 := by omega
 have b1 : 0 ≤ b ∧ b ≤ 99 := by omega
 have c1 : 0 ≤ c ∧ c ≤ 399 := by omega
 rw [← ha] at t1 HL
 rw [← hb] at t2 HL
 rw [← hc] at t3 HL
 generalize Cal.leap y = R at *
 clear ha hb hc
 go_enter Tryz.func67, Tryz.ntmps67
 go_wp2
 all_goals go_ret
 all_goals (
  refine ⟨ret_bool ?_, rfl⟩
  have := HL.out
  rw [Bool.eq_iff_iff, this]
  simp_all
  try omega)
set_option maxHeartbeats 1600000 in
set_option maxRecDepth 1000000 in
theorem sp_length (y m : Int) (y0 : 0 ≤ y) (y1 : y ≤ 1000000) (w : World) :
 Calls Tryz.prog 49 #[.int .i64 y, .int .i64 m] w fun e w' => e = .returned (.int .i64 (Cal.mlen y m)) ∧ w = w' := by
 have HL := Lib.hid (sp_leap y y0 y1 w)
 have HM : Hid (Cal.mlen y m = if m = 2 then (if Cal.leap y then 29 else 28) else if m = 4 ∨ m = 6 ∨ m = 9 ∨ m = 11 then 30 else 31) := rfl
 generalize Cal.mlen y m = R at *
 rcases hl : Cal.leap y
 all_goals rw [hl] at HL HM
 all_goals clear hl y0 y1
 all_goals
  go_enter Tryz.func49, Tryz.ntmps49
  by_cases h2 : m = 2
  ·subst h2
   go_wp2_with fail
   go_at_call 67
   refine HL.out.mono ?_
   rintro e w1 ⟨rfl, rfl⟩
   go_wp2_with fail
   go_ret
   refine ⟨?_, rfl⟩
   rw [HM.out]; simp
  ·by_cases h4 : m = 4
   ·subst h4
    go_wp2_with fail
    go_ret
    refine ⟨?_, rfl⟩
    rw [HM.out]; simp
   ·by_cases h6 : m = 6
    ·subst h6
     go_wp2_with fail
     go_ret
     refine ⟨?_, rfl⟩
     rw [HM.out]; simp
    ·by_cases h9 : m = 9
     ·subst h9
      go_wp2_with fail
      go_ret
      refine ⟨?_, rfl⟩
      rw [HM.out]; simp
     ·by_cases h11 : m = 11
      ·subst h11
       go_wp2_with fail
       go_ret
       refine ⟨?_, rfl⟩
       rw [HM.out]; simp
      ·go_wp2_with fail
       go_ret
       refine ⟨?_, rfl⟩
       rw [HM.out]; simp [h2, h4, h6, h9, h11]
theorem dayNum_bd {y m d : Int} (y0 : 1970 ≤ y) (y1 : y ≤ 2300) (m0 : 1 ≤ m) (m1 : m ≤ 13) (d0 : -100 ≤ d) (d1 : d ≤ 100) : -101 ≤ Cal.dayNum y m d ∧ Cal.dayNum y m d ≤ 200000 := by
 have h := Cal.dayNum_add y m 1 (d - 1)
 have e : (1 : Int) + (d - 1) = d := by omega
 rw [e] at h
 have : 0 ≤ Cal.dayNum y m 1 ∧ Cal.dayNum y m 1 ≤ 150000 := by
  unfold Cal.dayNum
  constructor <;> (simp only; split <;> omega)
 omega
theorem month_step {y m : Int} (m0 : 1 ≤ m) (m1 : m ≤ 12) : Cal.dayNum y (m + 1) 1 = Cal.dayNum y m 1 + Cal.mlen y m := by
 rcases Int.lt_or_le m 12 with h | h
 ·exact Cal.dayNum_next m0 (by omega)
 ·have hm : m = 12 := by omega
  subst hm
  have e4 : Cal.mlen y 12 = 31 := by unfold Cal.mlen; simp
  rw [show (12 : Int) + 1 = 13 by decide, Cal.dayNum_13, Cal.dayNum_year, e4]
set_option maxHeartbeats 3200000 in
set_option maxRecDepth 1000000 in
theorem sp_days (y m d : Int) (y0 : 1970 ≤ y) (y1 : y ≤ 2300) (m0 : 1 ≤ m) (m1 : m ≤ 12) (d0 : -50 ≤ d) (d1 : d ≤ 50) (w : World) :
 Calls Tryz.prog 72 #[.int .i64 y, .int .i64 m, .int .i64 d] w fun e w' => e = .returned (.int .i64 (Cal.dayNum y m d)) ∧ w = w' := by
 have HE : Hid (∀ N, N = Cal.dayNum y m 1 → N + d - 1 = Cal.dayNum y m d) := fun N hN => by
  have h := Cal.dayNum_add y m 1 (d - 1)
  have e : (1 : Int) + (d - 1) = d := by omega
  rw [e] at h
  omega
 have HB := Lib.hid (dayNum_bd (d := d) y0 y1 m0 (by omega : m ≤ 13) (by omega) (by omega))
 have H0 : Hid ((0 : Int) = Cal.dayNum 1970 1 1) := by show _ = _; decide
 go_enter Tryz.func72, Tryz.ntmps72
 go_wp2_with fail
 go_loop [7, 8] (fun n x => ∃ N X : Int, n = .int .i64 N ∧ x = .int .i64 X ∧ 1970 ≤ X ∧ X ≤ y ∧ 0 ≤ N ∧ N ≤ 200000 ∧ Hid (N = Cal.dayNum X 1 1))
  (fun _ x => (y - RowKit.intOf x).toNat)
 case atStart => exact ⟨0, 1970, rfl, rfl, by omega, y0, by omega, by omega, H0.out⟩
 case round =>
  obtain ⟨N, X, rfl, rfl, x0, x1, n0, n1, HN⟩ := hrel
  by_cases hlt : X < y
  ·have HL := Lib.hid (sp_leap X (by omega) (by omega) w)
   have HS : Hid (Cal.dayNum (X + 1) 1 1 = N + (if Cal.leap X then 366 else 365)) := by show _ = _; rw [Cal.year_len, HN.out]
   have HB2 := Lib.hid (dayNum_bd (y := X + 1) (m := 1) (d := 1) (by omega) (by omega) (by omega) (by omega) (by omega) (by omega))
   rcases hl : Cal.leap X
   all_goals rw [hl] at HL HS
   ·have HS2 : Hid (N + 365 = Cal.dayNum (X + 1) 1 1) := by show _ = _; rw [HS.out]; simp
    have hb2 : N + 365 ≤ 200000 := by rw [HS2.out]; exact HB2.out.2
    clear HS hl
    go_wp2_with fail
    go_at_call 67
    refine HL.out.mono ?_
    rintro e w1 ⟨rfl, rfl⟩
    go_wp2_with fail
    exact ⟨⟨N + 365, X + 1, rfl, rfl, by omega, by omega, by omega, hb2, HS2.out⟩, by simp only [RowKit.intOf]; omega⟩
   ·have HS2 : Hid (N + 365 + 1 = Cal.dayNum (X + 1) 1 1) := by show _ = _; rw [HS.out]; simp; omega
    have hb2 : N + 365 + 1 ≤ 200000 := by rw [HS2.out]; exact HB2.out.2
    clear HS hl
    go_wp2_with fail
    go_at_call 67
    refine HL.out.mono ?_
    rintro e w1 ⟨rfl, rfl⟩
    go_wp2_with fail
    exact ⟨⟨N + 365 + 1, X + 1, rfl, rfl, by omega, by omega, by omega, hb2, HS2.out⟩, by simp only [RowKit.intOf]; omega⟩
  ·obtain rfl : X = y := by omega
   go_wp2_with fail
   go_loop [7, 9] (fun n x => ∃ N X' : Int, n = .int .i64 N ∧ x = .int .i64 X' ∧ 1 ≤ X' ∧ X' ≤ m ∧ 0 ≤ N ∧ N ≤ 200000 ∧ Hid (N = Cal.dayNum X X' 1))
    (fun _ x => (m - RowKit.intOf x).toNat)
   case atStart => exact ⟨N, 1, rfl, rfl, by omega, m0, n0, n1, HN.out⟩
   case round =>
    obtain ⟨M, K, rfl, rfl, k0, k1, n0', n1', HM⟩ := hrel
    by_cases hlt2 : K < m
    ·have HLN := Lib.hid (sp_length X K (by omega) (by omega) w)
     have HS2 : Hid (M + Cal.mlen X K = Cal.dayNum X (K + 1) 1) := by show _ = _; rw [month_step k0 (by omega), HM.out]
     have HB2 := Lib.hid (dayNum_bd (y := X) (m := K + 1) (d := 1) (by omega) (by omega) (by omega) (by omega) (by omega) (by omega))
     have hml := Cal.mlen_bd X K
     have hb2 : M + Cal.mlen X K ≤ 200000 := by rw [HS2.out]; exact HB2.out.2
     generalize Cal.mlen X K = L at *
     obtain ⟨l0, l1⟩ := hml
     go_wp2_with fail
     go_at_call 49
     refine HLN.out.mono ?_
     rintro e w1 ⟨rfl, rfl⟩
     go_wp2_with fail
     exact ⟨⟨M + L, K + 1, rfl, rfl, by omega, by omega, by omega, hb2, HS2.out⟩, by simp only [RowKit.intOf]; omega⟩
    ·obtain rfl : K = m := by omega
     have HR := Lib.hid (HE.out M HM.out)
     go_wp2_with fail
     go_ret
     refine ⟨?_, rfl⟩
     show Ending.returned (.int .i64 (M + d - 1)) = _
     rw [HR.out]
theorem year_bd {Y N : Int} (h0 : 1970 ≤ Y) (h : Cal.dayNum Y 1 1 ≤ N) (hN : N ≤ 100000) : Y ≤ 2250 := by
 have a := Cal.year_mono 1970 (Y - 1970).toNat
 have e : 1970 + ((Y - 1970).toNat : Int) = Y := by omega
 rw [e] at a
 have e0 : Cal.dayNum 1970 1 1 = 0 := by decide
 omega
set_option maxHeartbeats 3200000 in
set_option maxRecDepth 1000000 in
theorem sp_date (N : Int) (N0 : 0 ≤ N) (N1 : N ≤ 100000) (w : World) :
 Calls Tryz.prog 47 #[.int .i64 N] w fun e w' => e = .returned (.tuple #[.int .i64 (Cal.civil N).1, .int .i64 (Cal.civil N).2.1, .int .i64 (Cal.civil N).2.2]) ∧ w = w' := by
 have H0 : Hid (N + Cal.dayNum 1970 1 1 = N) := by
  show _ = _
  have : Cal.dayNum 1970 1 1 = 0 := by decide
  omega
 have HR : Hid (∀ y m d, Cal.Valid y m d → Cal.dayNum y m d = N → Cal.civil N = (y, m, d)) := fun y m d hv he => by rw [← he]; exact Cal.civil_dayNum hv
 generalize Cal.civil N = R at *
 go_enter Tryz.func47, Tryz.ntmps47
 go_wp2_with fail
 go_loop [0, 5] (fun n x => ∃ M Y : Int, n = .int .i64 M ∧ x = .int .i64 Y ∧ 1970 ≤ Y ∧ Y ≤ 2250 ∧ 0 ≤ M ∧ M ≤ 100000 ∧ Hid (M + Cal.dayNum Y 1 1 = N))
  (fun n _ => (RowKit.intOf n).toNat)
 case atStart => exact ⟨N, 1970, rfl, rfl, by omega, by omega, N0, N1, H0.out⟩
 case round =>
  obtain ⟨M, Y, rfl, rfl, y0, y1, m0, m1, HM⟩ := hrel
  have HL := Lib.hid (sp_leap Y (by omega) (by omega) w)
  obtain ⟨A, hA⟩ : ∃ A, A = if Cal.leap Y then (366 : Int) else 365 := ⟨_, rfl⟩
  have HS : Hid (Cal.dayNum (Y + 1) 1 1 = Cal.dayNum Y 1 1 + A) := by show _ = _; rw [Cal.year_len, hA]
  have hAb : 365 ≤ A ∧ A ≤ 366 := by rw [hA]; split <;> omega
  obtain ⟨A0, A1⟩ := hAb
  by_cases hlt : M < A
  ·have HEND : Hid (N < Cal.dayNum (Y + 1) 1 1) := by show _ < _; have := HM.out; have := HS.out; omega
   have HLP : Hid (∀ w1 : World, w = w1 → True) := fun _ _ => trivial
   rcases hl : Cal.leap Y
   all_goals
    rw [hl] at HL hA
    have hA2 : A = (if _ then _ else _) := hA
    simp only [if_true, if_false, Bool.false_eq_true] at hA2
    subst hA2
    clear hA hl
    go_wp2_with fail
    go_at_call 67
    refine HL.out.mono ?_
    rintro e w1 ⟨rfl, rfl⟩
    go_wp2_with fail
    go_loop [0, 7] (fun n x => ∃ K m : Int, n = .int .i64 K ∧ x = .int .i64 m ∧ 1 ≤ m ∧ m ≤ 12 ∧ 0 ≤ K ∧ K ≤ 100000 ∧ Hid (K + Cal.dayNum Y m 1 = N))
     (fun n _ => (RowKit.intOf n).toNat)
    case atStart => exact ⟨M, 1, rfl, rfl, by omega, by omega, m0, m1, HM.out⟩
    case round =>
     obtain ⟨K, m, rfl, rfl, k0, k1, n0, n1, HK⟩ := hrel
     have HLN := Lib.hid (sp_length Y m (by omega) (by omega) w)
     have HST : Hid (Cal.dayNum Y (m + 1) 1 = Cal.dayNum Y m 1 + Cal.mlen Y m) := month_step k0 k1
     have HV : Hid (K < Cal.mlen Y m → R = (Y, m, K + 1)) := fun hk => HR.out Y m (K + 1) ⟨k0, k1, by omega, by omega⟩ (by
      have h := Cal.dayNum_add Y m 1 K
      have e : (1 : Int) + K = K + 1 := by omega
      rw [e] at h
      have := HK.out
      omega)
     have hml := Cal.mlen_bd Y m
     have HNX : Hid (Cal.mlen Y m ≤ K → m + 1 ≤ 12 ∧ K - Cal.mlen Y m + Cal.dayNum Y (m + 1) 1 = N) := fun hk => by
      have h1 := HST.out
      have h2 := HK.out
      refine ⟨?_, by omega⟩
      rcases Int.lt_or_le m 12 with h | h
      ·omega
      ·exfalso
       have hm : m = 12 := by omega
       subst hm
       have h3 := HEND.out
       rw [show (12 : Int) + 1 = 13 by decide, Cal.dayNum_13] at h1
       omega
     generalize Cal.mlen Y m = L at *
     obtain ⟨l0, l1⟩ := hml
     by_cases hge : L ≤ K
     ·obtain ⟨q1, q2⟩ := HNX.out hge
      have Q2 := Lib.hid q2
      clear q2
      go_wp2_with fail
      go_at_call 49
      refine HLN.out.mono ?_
      rintro e w1 ⟨rfl, rfl⟩
      go_wp2_with fail
      go_at_call 49
      refine HLN.out.mono ?_
      rintro e w1 ⟨rfl, rfl⟩
      go_wp2_with fail
      exact ⟨⟨K - L, m + 1, rfl, rfl, by omega, q1, by omega, by omega, Q2.out⟩, by simp only [RowKit.intOf]; omega⟩
     ·have HVV := Lib.hid (HV.out (by omega))
      go_wp2_with fail
      go_at_call 49
      refine HLN.out.mono ?_
      rintro e w1 ⟨rfl, rfl⟩
      go_wp2_with fail
      refine bodyPost_ret (v := .tuple #[.int .i64 Y, .int .i64 m, .int .i64 (K + 1)]) (by simp [results, Tryz.results47, go_sem]) rfl ⟨?_, rfl⟩
      rw [HVV.out]
  ·have HNXT : Hid (M - A + Cal.dayNum (Y + 1) 1 1 = N) := by show _ = _; have := HM.out; have := HS.out; omega
   have hY1 : Y + 1 ≤ 2250 := year_bd (N := N) (by omega) (by have := HNXT.out; omega) N1
   rcases hl : Cal.leap Y
   all_goals
    rw [hl] at HL hA
    have hA2 : A = (if _ then _ else _) := hA
    simp only [if_true, if_false, Bool.false_eq_true] at hA2
    subst hA2
    clear hA hl
    go_wp2_with fail
    go_at_call 67
    refine HL.out.mono ?_
    rintro e w1 ⟨rfl, rfl⟩
    go_wp2_with fail
    exact ⟨⟨_, Y + 1, rfl, rfl, by omega, hY1, by omega, by omega, HNXT.out⟩, by simp only [RowKit.intOf]; omega⟩
set_option maxHeartbeats 1600000 in
set_option maxRecDepth 1000000 in
theorem sp_weekday (y m d : Int) (y0 : 1970 ≤ y) (y1 : y ≤ 2300) (m0 : 1 ≤ m) (m1 : m ≤ 12) (d0 : 1 ≤ d) (d1 : d ≤ 50) (w : World) :
 Calls Tryz.prog 86 #[.int .i64 y, .int .i64 m, .int .i64 d] w fun e w' => e = .returned (.int .i64 (Csm.wday y m d)) ∧ w = w' := by
 have HD := Lib.hid (sp_days y m d y0 y1 m0 m1 (by omega) d1 w)
 have hb := dayNum_bd (d := d) y0 y1 m0 (by omega : m ≤ 13) (by omega) (by omega)
 have hb0 : 0 ≤ Cal.dayNum y m d := by
  have h1 := Cal.from_first y m d
  have h2 := Cal.year_first (y := y) m0 m1
  have h3 := Cal.year_mono 1970 (y - 1970).toNat
  have e : 1970 + ((y - 1970).toNat : Int) = y := by omega
  rw [e] at h3
  have e0 : Cal.dayNum 1970 1 1 = 0 := by decide
  omega
 have HW : Hid (Csm.wday y m d = (Cal.dayNum y m d + 4) % 7) := rfl
 generalize Csm.wday y m d = R at *
 generalize Cal.dayNum y m d = k at *
 have t : (k + 4).tmod 7 = R := by rw [HW.out]; exact Int.tmod_eq_emod_of_nonneg (by omega)
 have hR : 0 ≤ R ∧ R ≤ 6 := by rw [HW.out]; omega
 obtain ⟨r0, r1⟩ := hR
 obtain ⟨b0, b1⟩ := hb
 go_enter Tryz.func86, Tryz.ntmps86
 go_wp2_with fail
 go_at_call 72
 refine HD.out.mono ?_
 rintro e w1 ⟨rfl, rfl⟩
 go_wp2_with fail
 go_ret
 exact ⟨rfl, rfl⟩
set_option maxHeartbeats 1600000 in
set_option maxRecDepth 1000000 in
theorem sp_work (y m d : Int) (y0 : 1970 ≤ y) (y1 : y ≤ 2300) (m0 : 1 ≤ m) (m1 : m ≤ 12) (d0 : 1 ≤ d) (d1 : d ≤ 50) (w : World) :
 Calls Tryz.prog 68 #[.int .i64 y, .int .i64 m, .int .i64 d] w fun e w' => e = .returned (.bool (Csm.isWork y m d)) ∧ w = w' := by
 have HD := Lib.hid (sp_weekday y m d y0 y1 m0 m1 d0 d1 w)
 have HI := Lib.hid (Csm.isWork_iff y m d)
 have hb := Csm.wday_bd y m d
 generalize Csm.isWork y m d = R at *
 generalize Csm.wday y m d = k at *
 obtain ⟨b0, b1⟩ := hb
 go_enter Tryz.func68, Tryz.ntmps68
 go_wp2_with fail
 go_at_call 86
 refine HD.out.mono ?_
 rintro e w1 ⟨rfl, rfl⟩
 go_wp2_with fail
 all_goals go_ret
 all_goals (
  refine ⟨ret_bool ?_, rfl⟩
  rw [Bool.eq_iff_iff, HI.out]
  simp_all
  try omega)
end Go.Proofs.YtmaffdhcmdhjfaaGreatDoor
namespace Go.Proofs.YtmaffdhcmdhjfaaGreatDoor
open Go.RowKit Go.Lib
def amongB (l : List Int) (n : Int) : Bool := l.contains n || l.isEmpty
theorem among_iff {lo hi : Int} {l : List Int} {n : Int} (h0 : lo ≤ n) (h1 : n ≤ hi) : amongB l n = true ↔ Csm.InL lo hi l n := by
 unfold amongB Csm.InL
 cases l with
 | nil => simp; exact ⟨h0, h1⟩
 | cons a t => simp
theorem closest_spec {y m d : Int} (hd : 1 ≤ d) (hl : d ≤ Cal.mlen y m) {far : Nat}
 (hno : ∀ k : Nat, k < far → ¬ (1 ≤ d - k ∧ Csm.isWork y m (d - k) = true) ∧ ¬ (d + k ≤ Cal.mlen y m ∧ Csm.isWork y m (d + k) = true)) :
 far ≤ 2 ∧ (1 ≤ d - far → Csm.isWork y m (d - far) = true → Csm.closestW y m d = d - far) ∧
 (¬ (1 ≤ d - far ∧ Csm.isWork y m (d - far) = true) → d + far ≤ Cal.mlen y m → Csm.isWork y m (d + far) = true → Csm.closestW y m d = d + far) := by
 have hb := Cal.mlen_bd y m
 obtain ⟨c1, c2, c3, c4, c5, _⟩ := Csm.closest_cases y m d hd hl hb.1
 have h2 : far ≤ 2 := by
  rcases Nat.lt_or_ge 2 far with h | h
  ·exfalso
   rcases Int.le_total (Csm.closestW y m d) d with hc | hc
   ·have := (hno (d - Csm.closestW y m d).toNat (by omega)).1
    have e : d - ((d - Csm.closestW y m d).toNat : Int) = Csm.closestW y m d := by omega
    rw [e] at this
    exact this ⟨c1, c3⟩
   ·have := (hno (Csm.closestW y m d - d).toNat (by omega)).2
    have e : d + ((Csm.closestW y m d - d).toNat : Int) = Csm.closestW y m d := by omega
    rw [e] at this
    exact this ⟨c2, c3⟩
  ·exact h
 refine ⟨h2, ?_, ?_⟩
 ·intro g1 g2
  rcases (show far = 0 ∨ far = 1 ∨ far = 2 by omega) with rfl | rfl | rfl
  ·have e : d - ((0 : Nat) : Int) = d := by omega
   rw [e] at g2 ⊢
   unfold Csm.closestW; rw [if_pos g2]
  ·have n0 := (hno 0 (by omega)).1
   have e0 : d - ((0 : Nat) : Int) = d := by omega
   rw [e0] at n0
   have n0' : ¬ Csm.isWork y m d = true := fun h => n0 ⟨hd, h⟩
   have e : d - ((1 : Nat) : Int) = d - 1 := by omega
   rw [e] at g1 g2 ⊢
   unfold Csm.closestW; rw [if_neg n0', if_pos ⟨g1, g2⟩]
  ·have n0 := (hno 0 (by omega)).1
   have e0 : d - ((0 : Nat) : Int) = d := by omega
   rw [e0] at n0
   have n0' : ¬ Csm.isWork y m d = true := fun h => n0 ⟨hd, h⟩
   obtain ⟨n1, n2⟩ := hno 1 (by omega)
   have e1 : d - ((1 : Nat) : Int) = d - 1 := by omega
   have e1' : d + ((1 : Nat) : Int) = d + 1 := by omega
   rw [e1] at n1
   rw [e1'] at n2
   have e : d - ((2 : Nat) : Int) = d - 2 := by omega
   rw [e] at g1 g2 ⊢
   unfold Csm.closestW; rw [if_neg n0', if_neg n1, if_neg n2, if_pos ⟨g1, g2⟩]
 ·intro g0 g1 g2
  rcases (show far = 0 ∨ far = 1 ∨ far = 2 by omega) with rfl | rfl | rfl
  ·exfalso
   have e : d - ((0 : Nat) : Int) = d := by omega
   have e' : d + ((0 : Nat) : Int) = d := by omega
   rw [e] at g0
   rw [e'] at g2
   exact g0 ⟨hd, g2⟩
  ·have n0 := (hno 0 (by omega)).1
   have e0 : d - ((0 : Nat) : Int) = d := by omega
   rw [e0] at n0
   have n0' : ¬ Csm.isWork y m d = true := fun h => n0 ⟨hd, h⟩
   have e : d - ((1 : Nat) : Int) = d - 1 := by omega
   have e' : d + ((1 : Nat) : Int) = d + 1 := by omega
   rw [e] at g0
   rw [e'] at g1 g2 ⊢
   unfold Csm.closestW; rw [if_neg n0', if_neg g0, if_pos ⟨g1, g2⟩]
  ·have n0 := (hno 0 (by omega)).1
   have e0 : d - ((0 : Nat) : Int) = d := by omega
   rw [e0] at n0
   have n0' : ¬ Csm.isWork y m d = true := fun h => n0 ⟨hd, h⟩
   obtain ⟨n1, n2⟩ := hno 1 (by omega)
   have e1 : d - ((1 : Nat) : Int) = d - 1 := by omega
   have e1' : d + ((1 : Nat) : Int) = d + 1 := by omega
   rw [e1] at n1
   rw [e1'] at n2
   have e : d - ((2 : Nat) : Int) = d - 2 := by omega
   have e' : d + ((2 : Nat) : Int) = d + 2 := by omega
   rw [e] at g0
   rw [e'] at g1 g2 ⊢
   unfold Csm.closestW; rw [if_neg n0', if_neg n1, if_neg n2, if_neg g0, if_pos ⟨g1, g2⟩]
theorem last_work_spec {y m : Int} {far : Nat} (hno : ∀ k : Nat, k < far → Csm.isWork y m (Cal.mlen y m - k) = false) :
 far ≤ 2 ∧ (Csm.isWork y m (Cal.mlen y m - far) = true → Csm.closestW y m (Cal.mlen y m) = Cal.mlen y m - far) := by
 have hb := Cal.mlen_bd y m
 have key : ∀ k : Nat, k < far → ¬ (1 ≤ Cal.mlen y m - k ∧ Csm.isWork y m (Cal.mlen y m - k) = true) ∧ ¬ (Cal.mlen y m + k ≤ Cal.mlen y m ∧ Csm.isWork y m (Cal.mlen y m + k) = true) := by
  intro k hk
  have h := hno k hk
  refine ⟨fun g => by rw [h] at g; exact absurd g.2 (by decide), fun g => ?_⟩
  have k0 : k = 0 := by omega
  subst k0
  have e : Cal.mlen y m + ((0 : Nat) : Int) = Cal.mlen y m - ((0 : Nat) : Int) := by omega
  rw [e, h] at g
  exact absurd g.2 (by decide)
 obtain ⟨h2, h3, _⟩ := closest_spec (y := y) (m := m) (d := Cal.mlen y m) (by omega) (by omega) key
 exact ⟨h2, h3 (by omega)⟩
set_option maxHeartbeats 3200000 in
set_option maxRecDepth 1000000 in
theorem sp_closest (y m a : Int) (y0 : 1970 ≤ y) (y1 : y ≤ 2300) (m0 : 1 ≤ m) (m1 : m ≤ 12) (d0 : 1 ≤ a) (d1 : a ≤ 31) (w : World) :
 Calls Tryz.prog 50 #[.int .i64 y, .int .i64 m, .int .i64 a] w fun e w' => e = .returned (.int .i64 (Csm.closestW y m (if Cal.mlen y m < a then Cal.mlen y m else a))) ∧ w = w' := by
 have HL := Lib.hid (sp_length y m (by omega) (by omega) w)
 have hb := Cal.mlen_bd y m
 obtain ⟨d, hd⟩ : ∃ d, d = if Cal.mlen y m < a then Cal.mlen y m else a := ⟨_, rfl⟩
 have hd1 : 1 ≤ d ∧ d ≤ Cal.mlen y m := by rw [hd]; split <;> omega
 have hmin : min a (Cal.mlen y m) = d := by rw [hd]; split <;> omega
 have HW : Hid (∀ x, 1 ≤ x → x ≤ 50 → Calls Tryz.prog 68 #[.int .i64 y, .int .i64 m, .int .i64 x] w fun e w' => e = .returned (.bool (Csm.isWork y m x)) ∧ w = w') := fun x x0 x1 => sp_work y m x y0 y1 m0 m1 x0 x1 w
 have HS : Hid (∀ far : Nat, (∀ k : Nat, k < far → ¬ (1 ≤ d - k ∧ Csm.isWork y m (d - k) = true) ∧ ¬ (d + k ≤ Cal.mlen y m ∧ Csm.isWork y m (d + k) = true)) →
  far ≤ 2 ∧ (1 ≤ d - far → Csm.isWork y m (d - far) = true → Csm.closestW y m d = d - far) ∧
  (¬ (1 ≤ d - far ∧ Csm.isWork y m (d - far) = true) → d + far ≤ Cal.mlen y m → Csm.isWork y m (d + far) = true → Csm.closestW y m d = d + far)) := fun far hno => closest_spec hd1.1 hd1.2 hno
 rw [← hd]
 clear hd
 generalize Csm.closestW y m d = R at *
 generalize Cal.mlen y m = L at *
 obtain ⟨e0, e1⟩ := hd1
 obtain ⟨b0, b1⟩ := hb
 go_enter Tryz.func50, Tryz.ntmps50
 go_wp2_with fail
 go_at_call 49
 refine HL.out.mono ?_
 rintro e w1 ⟨rfl, rfl⟩
 go_wp2_with fail
 go_loop [7] (fun i => ∃ k : Nat, k ≤ 4 ∧ i = .int .i64 k ∧ Hid (∀ j : Nat, j < k → ¬ (1 ≤ d - j ∧ Csm.isWork y m (d - j) = true) ∧ ¬ (d + j ≤ L ∧ Csm.isWork y m (d + j) = true)))
  (fun i => 4 - (RowKit.intOf i).toNat)
 case atStart => exact ⟨0, by omega, rfl, fun j hj => by omega⟩
 case round =>
  obtain ⟨k, hk, rfl, HN⟩ := hrel
  obtain ⟨k2, g1, g2⟩ := HS.out k HN.out
  have HG1 := Lib.hid g1
  have HG2 := Lib.hid g2
  clear g1 g2
  have HM := HW.out (d - k)
  have HP := HW.out (d + k)
  have HNX : Hid (¬ (1 ≤ d - (k : Int) ∧ Csm.isWork y m (d - k) = true) → ¬ (d + (k : Int) ≤ L ∧ Csm.isWork y m (d + k) = true) → (∀ j : Nat, j < k + 1 → ¬ (1 ≤ d - j ∧ Csm.isWork y m (d - j) = true) ∧ ¬ (d + j ≤ L ∧ Csm.isWork y m (d + j) = true))) := fun a1 a2 j hj => by
   rcases Nat.lt_or_ge j k with h | h
   ·exact HN.out j h
   ·obtain rfl : j = k := by omega
    exact ⟨a1, a2⟩
  generalize Csm.isWork y m (d - k) = b1 at *
  generalize Csm.isWork y m (d + k) = b2 at *
  have tail : ∀ (_ : Hid (¬ (1 ≤ d - (k : Int) ∧ b1 = true))), True := fun _ => trivial
  by_cases hA : 1 ≤ d - (k : Int)
  ·have HA := Lib.hid (HM (by omega) (by omega))
   clear HM
   rcases b1
   ·have HA1 : Hid (¬ (1 ≤ d - (k : Int) ∧ false = true)) := fun h => by cases h.2
    by_cases hC : d + (k : Int) ≤ L
    ·have HC := Lib.hid (HP (by omega) (by omega))
     clear HP
     rcases b2
     ·have HNN := Lib.hid (HNX.out HA1.out (fun h => by cases h.2))
      go_wp2_with fail
      go_at_call 68
      refine HA.out.mono ?_
      rintro e w1 ⟨rfl, rfl⟩
      go_wp2_with fail
      go_at_call 49
      refine HL.out.mono ?_
      rintro e w1 ⟨rfl, rfl⟩
      go_wp2_with fail
      go_at_call 68
      refine HC.out.mono ?_
      rintro e w1 ⟨rfl, rfl⟩
      go_wp2_with fail
      exact ⟨⟨k + 1, by omega, rfl, HNN.out⟩, by simp only [RowKit.intOf]; omega⟩
     ·have HRR := Lib.hid (HG2.out HA1.out hC rfl)
      go_wp2_with fail
      go_at_call 68
      refine HA.out.mono ?_
      rintro e w1 ⟨rfl, rfl⟩
      go_wp2_with fail
      go_at_call 49
      refine HL.out.mono ?_
      rintro e w1 ⟨rfl, rfl⟩
      go_wp2_with fail
      go_at_call 68
      refine HC.out.mono ?_
      rintro e w1 ⟨rfl, rfl⟩
      go_wp2_with fail
      go_ret
      refine ⟨?_, rfl⟩
      show Ending.returned (.int .i64 (d + k)) = _
      rw [HRR.out]
    ·have HNN := Lib.hid (HNX.out HA1.out (fun h => hC h.1))
     clear HP
     go_wp2_with fail
     go_at_call 68
     refine HA.out.mono ?_
     rintro e w1 ⟨rfl, rfl⟩
     go_wp2_with fail
     go_at_call 49
     refine HL.out.mono ?_
     rintro e w1 ⟨rfl, rfl⟩
     go_wp2_with fail
     exact ⟨⟨k + 1, by omega, rfl, HNN.out⟩, by simp only [RowKit.intOf]; omega⟩
   ·have HRR := Lib.hid (HG1.out hA rfl)
    clear HP
    go_wp2_with fail
    go_at_call 68
    refine HA.out.mono ?_
    rintro e w1 ⟨rfl, rfl⟩
    go_wp2_with fail
    go_ret
    refine ⟨?_, rfl⟩
    show Ending.returned (.int .i64 (d - k)) = _
    rw [HRR.out]
  ·have HA1 : Hid (¬ (1 ≤ d - (k : Int) ∧ b1 = true)) := fun h => hA h.1
   clear HM
   by_cases hC : d + (k : Int) ≤ L
   ·have HC := Lib.hid (HP (by omega) (by omega))
    clear HP
    rcases b2
    ·have HNN := Lib.hid (HNX.out HA1.out (fun h => by cases h.2))
     go_wp2_with fail
     go_at_call 49
     refine HL.out.mono ?_
     rintro e w1 ⟨rfl, rfl⟩
     go_wp2_with fail
     go_at_call 68
     refine HC.out.mono ?_
     rintro e w1 ⟨rfl, rfl⟩
     go_wp2_with fail
     exact ⟨⟨k + 1, by omega, rfl, HNN.out⟩, by simp only [RowKit.intOf]; omega⟩
    ·have HRR := Lib.hid (HG2.out HA1.out hC rfl)
     go_wp2_with fail
     go_at_call 49
     refine HL.out.mono ?_
     rintro e w1 ⟨rfl, rfl⟩
     go_wp2_with fail
     go_at_call 68
     refine HC.out.mono ?_
     rintro e w1 ⟨rfl, rfl⟩
     go_wp2_with fail
     go_ret
     refine ⟨?_, rfl⟩
     show Ending.returned (.int .i64 (d + k)) = _
     rw [HRR.out]
   ·exfalso; omega
set_option maxHeartbeats 3200000 in
set_option maxRecDepth 1000000 in
theorem sp_lastwork (y m : Int) (y0 : 1970 ≤ y) (y1 : y ≤ 2300) (m0 : 1 ≤ m) (m1 : m ≤ 12) (w : World) :
 Calls Tryz.prog 51 #[.int .i64 y, .int .i64 m] w fun e w' => e = .returned (.int .i64 (Csm.closestW y m (Cal.mlen y m))) ∧ w = w' := by
 have HL := Lib.hid (sp_length y m (by omega) (by omega) w)
 have hb := Cal.mlen_bd y m
 have HW : Hid (∀ x, 1 ≤ x → x ≤ 50 → Calls Tryz.prog 68 #[.int .i64 y, .int .i64 m, .int .i64 x] w fun e w' => e = .returned (.bool (Csm.isWork y m x)) ∧ w = w') := fun x x0 x1 => sp_work y m x y0 y1 m0 m1 x0 x1 w
 have HS : Hid (∀ far : Nat, (∀ k : Nat, k < far → Csm.isWork y m (Cal.mlen y m - k) = false) → far ≤ 2 ∧ (Csm.isWork y m (Cal.mlen y m - far) = true → Csm.closestW y m (Cal.mlen y m) = Cal.mlen y m - far)) := fun far hno => last_work_spec hno
 generalize Csm.closestW y m (Cal.mlen y m) = R at *
 generalize Cal.mlen y m = L at *
 obtain ⟨b0, b1⟩ := hb
 go_enter Tryz.func51, Tryz.ntmps51
 go_wp2_with fail
 go_at_call 49
 refine HL.out.mono ?_
 rintro e w1 ⟨rfl, rfl⟩
 go_wp2_with fail
 go_loop [5] (fun i => ∃ k : Nat, k ≤ 4 ∧ i = .int .i64 (L - k) ∧ Hid (∀ j : Nat, j < k → Csm.isWork y m (L - j) = false))
  (fun i => (RowKit.intOf i).toNat)
 case atStart => exact ⟨0, by omega, by simp, fun j hj => by omega⟩
 case round =>
  obtain ⟨k, hk, rfl, HN⟩ := hrel
  obtain ⟨k2, g1⟩ := HS.out k HN.out
  have HG1 := Lib.hid g1
  clear g1
  have HM := Lib.hid (HW.out (L - k) (by omega) (by omega))
  have HNX : Hid (Csm.isWork y m (L - k) = false → (∀ j : Nat, j < k + 1 → Csm.isWork y m (L - j) = false)) := fun a1 j hj => by
   rcases Nat.lt_or_ge j k with h | h
   ·exact HN.out j h
   ·obtain rfl : j = k := by omega
    exact a1
  generalize Csm.isWork y m (L - k) = b1 at *
  rcases b1
  ·have HNN := Lib.hid (HNX.out rfl)
   go_wp2_with fail
   go_at_call 68
   refine HM.out.mono ?_
   rintro e w1 ⟨rfl, rfl⟩
   go_wp2_with fail
   exact ⟨⟨k + 1, by omega, by congr 1; omega, HNN.out⟩, by simp only [RowKit.intOf]; omega⟩
  ·have HRR := Lib.hid (HG1.out rfl)
   go_wp2_with fail
   go_at_call 68
   refine HM.out.mono ?_
   rintro e w1 ⟨rfl, rfl⟩
   go_wp2_with fail
   go_ret
   refine ⟨?_, rfl⟩
   show Ending.returned (.int .i64 (L - k)) = _
   rw [HRR.out]
def LiAt (W : World) (a : Option Addr) (l : List Int) : Prop := 0 < l.length → ∃ g, a = some ⟨g, 0, none⟩ ∧ ∀ (j : Nat) (z : Int), l[j]? = some z → W.cell? ⟨g, j, none⟩ = some (.int .i64 z)
theorem LiAt.ext {W W' : World} {a : Option Addr} {l : List Int} (h : LiAt W a l) (x : Ext W W') : LiAt W' a l := by
 intro hne
 obtain ⟨g, ha, hc⟩ := h hne
 exact ⟨g, ha, fun j z hj => x.cell (hc j z hj)⟩
def RowsAt (W : World) (g : Nat) (ls : Nat → List Int) : Prop := ∀ i, i < 7 → ∃ a c, W.cell? ⟨g, i, none⟩ = some (.slice a (ls i).length c) ∧ LiAt W a (ls i)
theorem RowsAt.ext {W W' : World} {g : Nat} {ls : Nat → List Int} (h : RowsAt W g ls) (x : Ext W W') : RowsAt W' g ls := by
 intro i hi
 obtain ⟨a, c, h1, h2⟩ := h i hi
 exact ⟨a, c, x.cell h1, h2.ext x⟩
set_option maxHeartbeats 1600000 in
set_option maxRecDepth 1000000 in
theorem sp_among (a : Option Addr) (cap : Nat) (l : List Int) (z : Int) (hlen : l.length ≤ 100000000) (w : World) (hL : LiAt w a l) :
 Calls Tryz.prog 69 #[.slice a l.length cap, .int .i64 z] w fun e w' => e = .returned (.bool (amongB l z)) ∧ w = w' := by
 have HLS := Lib.hid hL
 obtain ⟨n, hn⟩ : ∃ n, n = l.length := ⟨_, rfl⟩
 have HN := Lib.hid hn
 rw [← hn] at hlen ⊢
 obtain ⟨r, hr⟩ : ∃ r, r = amongB l z := ⟨_, rfl⟩
 rw [← hr]
 have HR := Lib.hid hr
 clear hr hn hL
 go_enter Tryz.func69, Tryz.ntmps69
 go_wp2_with fail
 go_loop [5] (fun i => ∃ k : Nat, k ≤ n ∧ i = .int .i64 k ∧ Hid ((l.take k).contains z = false)) (fun i => n - (RowKit.intOf i).toNat)
 case atStart => exact ⟨0, Nat.zero_le _, rfl, rfl⟩
 case round =>
  obtain ⟨k, hk, rfl, Hk⟩ := hrel
  by_cases hlt : k < n
  ·obtain ⟨x, hx⟩ : ∃ x, l[k]? = some x := ⟨_, List.getElem?_eq_getElem (by rw [← HN.out]; exact hlt)⟩
   obtain ⟨g, rfl, hls⟩ := HLS.out (by rw [← HN.out]; omega)
   have cx := hls k x hx
   clear hls
   by_cases hz : x = z
   ·have HB : Hid (r = true) := by
     show _ = _
     have : l.contains z = true := by rw [List.contains_iff_mem, ← hz]; exact List.mem_of_getElem? hx
     rw [HR.out]; unfold amongB; rw [this]; rfl
    subst hz
    clear hx
    go_wp2_with fail
    go_ret
    exact ⟨ret_bool HB.out.symm, rfl⟩
   ·have HK : Hid ((l.take (k + 1)).contains z = false) := by
     show _ = _
     obtain ⟨hk2, hx2⟩ := List.getElem?_eq_some_iff.mp hx
     have h0 := Hk.out
     rw [List.take_succ_eq_append_getElem hk2, hx2]
     simp only [List.contains_eq_mem, List.mem_append, List.mem_singleton, decide_eq_false_iff_not, not_or] at h0 ⊢
     exact ⟨h0, fun h => hz h.symm⟩
    have hb : (x == z) = false := by simp [hz]
    clear hx
    go_wp2_with fail
    exact ⟨⟨k + 1, by omega, rfl, HK.out⟩, by simp only [RowKit.intOf]; omega⟩
  ·have HB : Hid (r = decide (n = 0)) := by
    show _ = _
    have h0 := Hk.out
    rw [List.take_of_length_le (by rw [← HN.out]; omega)] at h0
    rw [HR.out, HN.out]; unfold amongB; rw [h0]
    cases l <;> simp
   by_cases hn0 : n = 0
   ·have HB2 : Hid (r = true) := by show _ = _; rw [HB.out]; simp [hn0]
    subst hn0
    go_wp2_with fail
    go_ret
    exact ⟨ret_bool HB2.out.symm, rfl⟩
   ·have HB2 : Hid (r = false) := by show _ = _; rw [HB.out]; simp [hn0]
    go_wp2_with fail
    go_ret
    exact ⟨ret_bool (by rw [HB2.out]; simp; omega), rfl⟩
end Go.Proofs.YtmaffdhcmdhjfaaGreatDoor
namespace Go.Proofs.YtmaffdhcmdhjfaaGreatDoor
open Go.RowKit Go.Lib
structure TFit (ls : Nat → List Int) (h m s : Int) : Prop where
 h0 : 0 ≤ h
 h1 : h ≤ 23
 m0 : 0 ≤ m
 m1 : m ≤ 59
 s0 : 0 ≤ s
 s1 : s ≤ 59
 th : amongB (ls 2) h = true
 tm : amongB (ls 1) m = true
 ts : amongB (ls 0) s = true
def NoBefore (ls : Nat → List Int) (a h m s : Int) : Prop := ∀ h' m' s', TFit ls h' m' s' → a ≤ h' * 3600 + m' * 60 + s' → (h < h' ∨ (h = h' ∧ (m < m' ∨ (m = m' ∧ s ≤ s'))))
theorem nb_start (ls : Nat → List Int) (a : Int) : NoBefore ls a (a / 3600) 0 0 := by
 intro h' m' s' f ha
 have := f.m0; have := f.m1; have := f.s0; have := f.s1
 omega
theorem nb_skipH {ls : Nat → List Int} {a h : Int} (n : NoBefore ls a h 0 0) (hn : amongB (ls 2) h = false) : NoBefore ls a (h + 1) 0 0 := by
 intro h' m' s' f ha
 have := f.m0; have := f.m1; have := f.s0; have := f.s1
 rcases n h' m' s' f ha with h1 | ⟨rfl, _⟩
 ·omega
 ·have := f.th; rw [hn] at this; cases this
theorem nb_endH {ls : Nat → List Int} {a h : Int} (n : NoBefore ls a h 60 0) : NoBefore ls a (h + 1) 0 0 := by
 intro h' m' s' f ha
 have := f.m0; have := f.m1; have := f.s0; have := f.s1
 have := n h' m' s' f ha
 omega
theorem nb_skipM {ls : Nat → List Int} {a h m : Int} (n : NoBefore ls a h m 0) (hn : amongB (ls 1) m = false ∨ h * 3600 + m * 60 + 59 < a) : NoBefore ls a h (m + 1) 0 := by
 intro h' m' s' f ha
 have := f.m0; have := f.m1; have := f.s0; have := f.s1
 rcases n h' m' s' f ha with h1 | ⟨rfl, h2 | ⟨rfl, _⟩⟩
 ·omega
 ·omega
 ·rcases hn with hn | hn
  ·have := f.tm; rw [hn] at this; cases this
  ·omega
theorem nb_endM {ls : Nat → List Int} {a h m : Int} (n : NoBefore ls a h m 60) : NoBefore ls a h (m + 1) 0 := by
 intro h' m' s' f ha
 have := f.m0; have := f.m1; have := f.s0; have := f.s1
 have := n h' m' s' f ha
 omega
theorem nb_skipS {ls : Nat → List Int} {a h m s : Int} (n : NoBefore ls a h m s) (hn : h * 3600 + m * 60 + s < a ∨ amongB (ls 0) s = false) : NoBefore ls a h m (s + 1) := by
 intro h' m' s' f ha
 have := f.m0; have := f.m1; have := f.s0; have := f.s1
 rcases n h' m' s' f ha with h1 | ⟨rfl, h2 | ⟨rfl, h3⟩⟩
 ·omega
 ·omega
 ·rcases hn with hn | hn
  ·omega
  ·rcases (show s = s' ∨ s < s' by omega) with rfl | h4
   ·have := f.ts; rw [hn] at this; cases this
   ·omega
def TimePost (ls : Nat → List Int) (a r : Int) : Prop :=
 (r = -1 ∧ ∀ h m s, TFit ls h m s → h * 3600 + m * 60 + s < a) ∨
 (∃ h m s, TFit ls h m s ∧ r = h * 3600 + m * 60 + s ∧ a ≤ r ∧ ∀ h' m' s', TFit ls h' m' s' → a ≤ h' * 3600 + m' * 60 + s' → r ≤ h' * 3600 + m' * 60 + s')
theorem nb_found {ls : Nat → List Int} {a h m s : Int} (n : NoBefore ls a h m s) (f : TFit ls h m s) (ha : a ≤ h * 3600 + m * 60 + s) : TimePost ls a (h * 3600 + m * 60 + s) := by
 refine .inr ⟨h, m, s, f, rfl, ha, fun h' m' s' f' ha' => ?_⟩
 have := f.m0; have := f.m1; have := f.s0; have := f.s1
 have := f'.m0; have := f'.m1; have := f'.s0; have := f'.s1
 have := n h' m' s' f' ha'
 omega
theorem nb_none {ls : Nat → List Int} {a : Int} (n : NoBefore ls a 24 0 0) : TimePost ls a (-1) := by
 refine .inl ⟨rfl, fun h m s f => ?_⟩
 have := f.h1
 rcases Int.lt_or_le (h * 3600 + m * 60 + s) a with hl | hl
 ·exact hl
 ·have := n h m s f hl; omega
set_option maxHeartbeats 6400000 in
set_option maxRecDepth 1000000 in
theorem sp_daytime (g cap : Nat) (ls : Nat → List Int) (a : Int) (a0 : 0 ≤ a) (a1 : a ≤ 86400) (hlen : ∀ i, i < 7 → (ls i).length ≤ 100000000) (w : World) (hR : RowsAt w g ls) :
 Calls Tryz.prog 71 #[.slice (some ⟨g, 0, none⟩) 7 cap, .int .i64 a] w fun e w' => ∃ r, e = .returned (.int .i64 r) ∧ TimePost ls a r ∧ w = w' := by
 obtain ⟨x0, c0, r0, l0⟩ := hR 0 (by omega)
 obtain ⟨x1, c1, r1, l1⟩ := hR 1 (by omega)
 obtain ⟨x2, c2, r2, l2⟩ := hR 2 (by omega)
 have A0 : Hid (∀ z, Calls Tryz.prog 69 #[.slice x0 (ls 0).length c0, .int .i64 z] w fun e w' => e = .returned (.bool (amongB (ls 0) z)) ∧ w = w') := fun z => sp_among x0 c0 (ls 0) z (hlen 0 (by omega)) w l0
 have A1 : Hid (∀ z, Calls Tryz.prog 69 #[.slice x1 (ls 1).length c1, .int .i64 z] w fun e w' => e = .returned (.bool (amongB (ls 1) z)) ∧ w = w') := fun z => sp_among x1 c1 (ls 1) z (hlen 1 (by omega)) w l1
 have A2 : Hid (∀ z, Calls Tryz.prog 69 #[.slice x2 (ls 2).length c2, .int .i64 z] w fun e w' => e = .returned (.bool (amongB (ls 2) z)) ∧ w = w') := fun z => sp_among x2 c2 (ls 2) z (hlen 2 (by omega)) w l2
 have HST := Lib.hid (nb_start ls a)
 generalize (ls 0).length = n0 at *
 generalize (ls 1).length = n1 at *
 generalize (ls 2).length = n2 at *
 clear hR l0 l1 l2 hlen
 obtain ⟨q, hq⟩ : ∃ q, q = a / 3600 := ⟨_, rfl⟩
 have hqb : 0 ≤ q ∧ q ≤ 24 := by omega
 have tq : a.tdiv 3600 = q := by rw [hq]; exact Int.tdiv_eq_ediv_of_nonneg a0
 rw [← hq] at HST
 clear hq
 obtain ⟨q0, q1⟩ := hqb
 go_enter Tryz.func71, Tryz.ntmps71
 go_wp2_with fail
 clear tq
 go_loop [5] (fun i => ∃ h : Int, i = .int .i64 h ∧ 0 ≤ h ∧ h ≤ 24 ∧ Hid (NoBefore ls a h 0 0)) (fun i => (24 - RowKit.intOf i).toNat)
 case atStart => exact ⟨q, rfl, q0, q1, HST.out⟩
 case round =>
  obtain ⟨h, rfl, h0, h1, HN⟩ := hrel
  by_cases hlt : h < 24
  ·have HA := Lib.hid (A2.out h)
   rcases hb : amongB (ls 2) h
   all_goals rw [hb] at HA
   ·have HNN := Lib.hid (nb_skipH HN.out hb)
    clear hb
    go_wp2_with fail
    go_at_call 69
    refine HA.out.mono ?_
    rintro e w1 ⟨rfl, rfl⟩
    go_wp2_with fail
    exact ⟨⟨h + 1, rfl, by omega, by omega, HNN.out⟩, by simp only [RowKit.intOf]; omega⟩
   ·have HB := Lib.hid hb
    clear hb
    go_wp2_with fail
    go_at_call 69
    refine HA.out.mono ?_
    rintro e w1 ⟨rfl, rfl⟩
    go_wp2_with fail
    go_loop [6] (fun i => ∃ m : Int, i = .int .i64 m ∧ 0 ≤ m ∧ m ≤ 60 ∧ Hid (NoBefore ls a h m 0)) (fun i => (60 - RowKit.intOf i).toNat)
    case atStart => exact ⟨0, rfl, by omega, by omega, HN.out⟩
    case round =>
     obtain ⟨m, rfl, m0, m1, HM⟩ := hrel
     by_cases hmt : m < 60
     ·have HA1 := Lib.hid (A1.out m)
      rcases hb1 : amongB (ls 1) m
      all_goals rw [hb1] at HA1
      ·have HMM := Lib.hid (nb_skipM HM.out (.inl hb1))
       clear hb1
       go_wp2_with fail
       go_at_call 69
       refine HA1.out.mono ?_
       rintro e w1 ⟨rfl, rfl⟩
       go_wp2_with fail
       exact ⟨⟨m + 1, rfl, by omega, by omega, HMM.out⟩, by simp only [RowKit.intOf]; omega⟩
      ·by_cases hbe : h * 3600 + m * 60 + 59 < a
       ·have HMM := Lib.hid (nb_skipM HM.out (.inr hbe))
        clear hb1
        go_wp2_with fail
        go_at_call 69
        refine HA1.out.mono ?_
        rintro e w1 ⟨rfl, rfl⟩
        go_wp2_with fail
        exact ⟨⟨m + 1, rfl, by omega, by omega, HMM.out⟩, by simp only [RowKit.intOf]; omega⟩
       ·have HB1 := Lib.hid hb1
        clear hb1
        go_wp2_with fail
        go_at_call 69
        refine HA1.out.mono ?_
        rintro e w1 ⟨rfl, rfl⟩
        go_wp2_with fail
        go_loop [7] (fun i => ∃ s : Int, i = .int .i64 s ∧ 0 ≤ s ∧ s ≤ 60 ∧ Hid (NoBefore ls a h m s)) (fun i => (60 - RowKit.intOf i).toNat)
        case atStart => exact ⟨0, rfl, by omega, by omega, HM.out⟩
        case round =>
         obtain ⟨s, rfl, s0, s1, HS⟩ := hrel
         by_cases hst : s < 60
         ·by_cases hat : h * 3600 + m * 60 + s < a
          ·have HSS := Lib.hid (nb_skipS HS.out (.inl hat))
           go_wp2_with fail
           exact ⟨⟨s + 1, rfl, by omega, by omega, HSS.out⟩, by simp only [RowKit.intOf]; omega⟩
          ·have HA0 := Lib.hid (A0.out s)
           rcases hb0 : amongB (ls 0) s
           all_goals rw [hb0] at HA0
           ·have HSS := Lib.hid (nb_skipS HS.out (.inr hb0))
            clear hb0
            go_wp2_with fail
            go_at_call 69
            refine HA0.out.mono ?_
            rintro e w1 ⟨rfl, rfl⟩
            go_wp2_with fail
            exact ⟨⟨s + 1, rfl, by omega, by omega, HSS.out⟩, by simp only [RowKit.intOf]; omega⟩
           ·have HF := Lib.hid (nb_found HS.out ⟨h0, by omega, m0, by omega, s0, by omega, HB.out, HB1.out, hb0⟩ (by omega))
            clear hb0
            go_wp2_with fail
            go_at_call 69
            refine HA0.out.mono ?_
            rintro e w1 ⟨rfl, rfl⟩
            go_wp2_with fail
            go_ret
            exact ⟨_, rfl, HF.out, rfl⟩
         ·obtain rfl : s = 60 := by omega
          have HMM := Lib.hid (nb_endM HS.out)
          go_wp2_with fail
          exact ⟨⟨m + 1, rfl, by omega, by omega, HMM.out⟩, by simp only [RowKit.intOf]; omega⟩
     ·obtain rfl : m = 60 := by omega
      have HNN := Lib.hid (nb_endH HM.out)
      go_wp2_with fail
      exact ⟨⟨h + 1, rfl, by omega, by omega, HNN.out⟩, by simp only [RowKit.intOf]; omega⟩
  ·obtain rfl : h = 24 := by omega
   have HF := Lib.hid (nb_none HN.out)
   go_wp2_with fail
   go_ret
   exact ⟨_, rfl, HF.out, rfl⟩
end Go.Proofs.YtmaffdhcmdhjfaaGreatDoor
