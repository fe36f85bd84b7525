/- The days of package csm: zzFloor, zzDay, civil, makeDateTime, Day, Month, Weekday, AddDate, isWeekday, lastDayOfMonth. The days of package csm: civil, Day, Month, Weekday, AddDate, isWeekday, lastDayOfMonth. The days of package csm: Day, Month, Weekday, AddDate, isWeekday, lastDayOfMonth. The plain nodes of package csm: their methods, over any state that has the node's cells. The plain nodes of package csm: isValid, findForward. -/
import Derived.Test.YtmaffdhcmdhjfaaGreatDoorNL
import Derived.Test.YtmaffdhcmdhjfaaGreatDoorNI
import Derived.IntWalk
import Derived.Lib.SmallJoins
import Derived.OneCell
set_option linter.unusedSimpArgs false
set_option linter.unusedVariables false
namespace Go.Proofs.YtmaffdhcmdhjfaaGreatDoor
open Go.RowKit Go.Lib
theorem floor_neg {a b : Int} (hb : 0 < b) (h : a.tmod b < 0) : a / b = a.tdiv b - 1 := by
 have h1 := Int.mul_tdiv_add_tmod a b
 have h2 : -b < a.tmod b := by
  have := Int.tmod_lt_of_pos (-a) hb
  rw [Int.neg_tmod] at this
  omega
 have : b * (a.tdiv b - 1) = b * a.tdiv b - b := by rw [Int.mul_sub, Int.mul_one]
 refine (Int.ediv_emod_unique hb (r := a.tmod b + b)).2 ⟨by omega, by omega, by omega⟩ |>.1
theorem floor_pos {a b : Int} (hb : 0 < b) (h : ¬ a.tmod b < 0) : a / b = a.tdiv b := by
 have h1 := Int.mul_tdiv_add_tmod a b
 have h2 := Int.tmod_lt_of_pos a hb
 refine (Int.ediv_emod_unique hb (r := a.tmod b)).2 ⟨by omega, by omega, by omega⟩ |>.1
theorem tdiv_bd {a b N : Int} (hb : 0 < b) (h0 : -N ≤ a) (h1 : a ≤ N) : -N ≤ a.tdiv b ∧ a.tdiv b ≤ N := by
 rcases Int.le_total 0 a with h | h
 ·rw [Int.tdiv_eq_ediv_of_nonneg h]
  have := Int.ediv_le_self b h
  have := Int.ediv_nonneg h (Int.le_of_lt hb)
  omega
 ·have e : a.tdiv b = -((-a) / b) := by
   have h3 : (-(-a)).tdiv b = -((-a).tdiv b) := Int.neg_tdiv _ _
   rw [Int.neg_neg, Int.tdiv_eq_ediv_of_nonneg (by omega : 0 ≤ -a)] at h3
   exact h3
  rw [e]
  have h2 : 0 ≤ -a := by omega
  have := Int.ediv_le_self b h2
  have := Int.ediv_nonneg h2 (Int.le_of_lt hb)
  omega
set_option maxHeartbeats 800000 in
set_option maxRecDepth 1000000 in
theorem zz_floor (a b : Int) (hb : 0 < b) (hb1 : b ≤ 1000000) (h0 : -1000000000000 ≤ a) (h1 : a ≤ 1000000000000) (w : World) :
 Calls Tryz.prog 139 #[.int .i64 a, .int .i64 b] w fun e w' => e = .returned (.int .i64 (a / b)) ∧ w = w' := by
 have hbd := tdiv_bd hb h0 h1
 have hF := floor_neg (a := a) hb
 have hG := floor_pos (a := a) hb
 have HF := Lib.hid hF
 have HG := Lib.hid hG
 have hm : -1000000 ≤ a.tmod b ∧ a.tmod b ≤ 1000000 := by
  have h1 := Int.tmod_lt_of_pos a hb
  have h2 := Int.tmod_lt_of_pos (-a) hb
  rw [Int.neg_tmod] at h2
  omega
 clear hF hG
 have hbne : b ≠ 0 := by omega
 have hb0 : (b == 0) = false := by simp [hbne]
 by_cases hneg : a.tmod b < 0
 ·have e := HF.out hneg
  rw [e]
  go_enter Tryz.func139, Tryz.ntmps139
  go_wp2_with fail
  go_ret
  exact ⟨rfl, rfl⟩
 ·have e := HG.out hneg
  rw [e]
  go_enter Tryz.func139, Tryz.ntmps139
  go_wp2_with fail
  go_ret
  exact ⟨rfl, rfl⟩
theorem u170 : (Tryz.prog.info? 170).map (·.size) = some 1 := by kernel_rfl
theorem ret_date {fn : Func} {p : Tmp} {a : Act} {g : Nat} {n : Int} {w : World} {P : Ending → World → Prop} (h : fn.results = #[.cell p 170]) (hp : a.tmps.getD p undef = .pointer (some ⟨g, 0, none⟩))
 (hg : w.heap[g]? = some (.cells #[.int .i64 n] 170 (0, 0))) (hP : P (.returned (.agg #[.int .i64 n])) w) (hd : a.defers = [] := by rfl) : bodyPost Tryz.prog fn P Exit.ret a w :=
 bodyPost_ret (results_cell_row h _ _ g 170 #[.int .i64 n] (0, 0) _ hp hg Tryz.underlying170 rfl u170) hd hP
set_option maxHeartbeats 1600000 in
set_option maxRecDepth 1000000 in
theorem zz_day (y m d : Int) (y0 : -3000000 ≤ y) (y1 : y ≤ 3000000) (m0 : -100000 ≤ m) (m1 : m ≤ 100000) (d0 : -1000000 ≤ d) (d1 : d ≤ 1000000) (w : World) :
 Calls Tryz.prog 166 #[.int .i64 y, .int .i64 m, .int .i64 d] w fun e w' => e = .returned (.agg #[.int .i64 (Cal.dayNum y m d)]) ∧ Ext w w' := by
 obtain ⟨q, hq⟩ : ∃ q, q = (m - 1) / 12 := ⟨_, rfl⟩
 have hq0 : -10000 ≤ q ∧ q ≤ 10000 := by omega
 have hr : 0 ≤ m - 1 - q * 12 ∧ m - 1 - q * 12 ≤ 11 := by omega
 obtain ⟨q1, q2⟩ := hq0
 obtain ⟨r, hrr⟩ : ∃ r, r = m - 1 - q * 12 := ⟨_, rfl⟩
 have hr0 : 0 ≤ r ∧ r ≤ 11 := by omega
 obtain ⟨r1, r2⟩ := hr0
 obtain ⟨Y, hY⟩ : ∃ Y, Y = if r < 2 then y + q - 1 else y + q := ⟨_, rfl⟩
 obtain ⟨M, hM⟩ : ∃ M, M = if r < 2 then r + 10 else r - 2 := ⟨_, rfl⟩
 have hYb : -3100000 ≤ Y ∧ Y ≤ 3100000 := by rw [hY]; split <;> omega
 have hMb : 0 ≤ M ∧ M ≤ 11 := by rw [hM]; split <;> omega
 obtain ⟨E, hE⟩ : ∃ E, E = Y / 400 := ⟨_, rfl⟩
 obtain ⟨O, hO⟩ : ∃ O, O = Y - E * 400 := ⟨_, rfl⟩
 have hOb : 0 ≤ O ∧ O ≤ 399 := by omega
 have hEb : -10000 ≤ E ∧ E ≤ 10000 := by omega
 obtain ⟨a, ha⟩ : ∃ a, a = O / 4 := ⟨_, rfl⟩
 obtain ⟨b, hb⟩ : ∃ b, b = O / 100 := ⟨_, rfl⟩
 obtain ⟨p, hp⟩ : ∃ p, p = (153 * M + 2) / 5 := ⟨_, rfl⟩
 have hR : Cal.dayNum y m d = E * 146097 + O * 365 + a - b + p + d - 1 - 719468 := by
  unfold Cal.dayNum
  simp only [← hq, ← hrr, ← hY, ← hM, ← hE, ← hO, ← ha, ← hb, ← hp]
 rw [hR]
 clear hR
 have ta : O.tdiv 4 = a := by rw [ha]; exact Int.tdiv_eq_ediv_of_nonneg hOb.1
 have tb : O.tdiv 100 = b := by rw [hb]; exact Int.tdiv_eq_ediv_of_nonneg hOb.1
 have tp : (153 * M + 2).tdiv 5 = p := by rw [hp]; exact Int.tdiv_eq_ediv_of_nonneg (by omega)
 have hab : 0 ≤ a ∧ a ≤ 100 := by omega
 have hbb : 0 ≤ b ∧ b ≤ 4 := by omega
 have hpb : 0 ≤ p ∧ p ≤ 400 := by omega
 have HQ := Lib.hid hq
 have HRR := Lib.hid hrr
 have HO := Lib.hid hO
 have HE := Lib.hid hE
 obtain ⟨e1, e2⟩ := hEb
 obtain ⟨o1, o2⟩ := hOb
 obtain ⟨a1, a2⟩ := hab
 obtain ⟨b1, b2⟩ := hbb
 obtain ⟨p1, p2⟩ := hpb
 obtain ⟨k1, k2⟩ := hYb
 obtain ⟨k3, k4⟩ := hMb
 clear hq hrr hr hE hO ha hb hp
 have HY := Lib.hid hY
 have HM := Lib.hid hM
 clear hY hM
 by_cases h2 : r < 2
 all_goals (
  have hY2 := HY.out
  have hM2 := HM.out
  first
   | (rw [if_pos h2] at hY2 hM2)
   | (rw [if_neg h2] at hY2 hM2)
  have HY2 := Lib.hid hY2.symm
  have HM2 := Lib.hid hM2.symm
  clear hY2 hM2
  go_enter Tryz.func166, Tryz.ntmps166
  go_wp2_with fail
  go_at_call 139
  refine (zz_floor (m - 1) 12 (by omega) (by omega) (by omega) (by omega) _).mono ?_
  rintro e w1 ⟨rfl, rfl⟩
  rw [← HQ.out]
  go_wp2_with fail
  go_at_call 139
  refine (zz_floor (m - 1) 12 (by omega) (by omega) (by omega) (by omega) _).mono ?_
  rintro e w1 ⟨rfl, rfl⟩
  rw [← HQ.out]
  have f1 := HRR.out.symm
  have f2 := HY2.out
  have f3 := HM2.out
  go_wp2_with fail
  go_at_call 139
  refine (zz_floor Y 400 (by omega) (by omega) (by omega) (by omega) _).mono ?_
  rintro e w1 ⟨rfl, rfl⟩
  rw [← HE.out]
  have f4 := HO.out.symm
  go_wp2_with fail
  exact ret_date rfl rfl (heap_alloc_new _ _) ⟨rfl, Ext.alloc _ _⟩)
set_option maxHeartbeats 1600000 in
set_option maxRecDepth 1000000 in
theorem make_date (y m d : Int) (y0 : -3000000 ≤ y) (y1 : y ≤ 3000000) (m0 : -100000 ≤ m) (m1 : m ≤ 100000) (d0 : -1000000 ≤ d) (d1 : d ≤ 1000000) (w : World) :
 Calls Tryz.prog 145 #[.int .i64 y, .int .i64 m, .int .i64 d] w fun e w' => e = .returned (.agg #[.int .i64 (Cal.dayNum y m d)]) ∧ Ext w w' := by
 have hz := fun W => zz_day y m d y0 y1 m0 m1 d0 d1 W
 generalize Cal.dayNum y m d = n at hz ⊢
 have hA : (w.alloc (.cells #[.int .i64 0] 170)).heap[w.heap.size]? = some (.cells #[.int .i64 0] 170 (0, 0)) := heap_alloc_new _ _
 have HZ := Lib.hid hz
 have HA := Lib.hid hA
 clear hz hA
 go_enter Tryz.func145, Tryz.ntmps145
 go_wp2_with fail
 go_at_call 166
 refine (HZ.out _).mono ?_
 rintro e w1 ⟨rfl, x1⟩
 have hb : w1.heap[w.heap.size]? = some (.cells #[.int .i64 0] 170 (0, 0)) := by rw [Below.block x1 _ (block_lt HA.out)]; exact HA.out
 have hc : w1.cell? ⟨w.heap.size, 0, none⟩ = some (.int .i64 0) := Joins.cell_of_block hb 0
 have hf : w1.frozen? ⟨w.heap.size, 0, none⟩ = false := Joins.unfrozen_of_block hb 0
 have HB := Lib.hid hb
 have X1 := Lib.hid (((Ext.alloc w (.cells #[.int .i64 0] 170)).trans x1).set (Nat.le_refl _) 0 (.int .i64 n))
 clear hb x1
 go_wp2_with fail
 exact ret_date rfl rfl (one_setCell HB.out) ⟨rfl, X1.out⟩
theorem doy_bd (x : Int) (h0 : 0 ≤ x) (h1 : x ≤ 146096) : ∃ y doy, (x - x/1460 + x/36524 - x/146096)/365 = y ∧ x - (365 * y + y / 4 - y / 100) = doy ∧ 0 ≤ y ∧ y ≤ 399 ∧ 0 ≤ doy ∧ doy ≤ 365 := by
 have fin : ∀ c q r doy : Int, 0 ≤ c → c ≤ 3 → 0 ≤ q → q ≤ 24 → 0 ≤ r → r ≤ 3 → 0 ≤ doy → doy ≤ 365 → (doy = 365 → r = 3 ∧ (q < 24 ∨ c = 3)) → x = 36524*c+1461*q+365*r + doy → ∃ y doy, (x - x/1460 + x/36524 - x/146096)/365 = y ∧ x - (365 * y + y / 4 - y / 100) = doy ∧ 0 ≤ y ∧ y ≤ 399 ∧ 0 ≤ doy ∧ doy ≤ 365 := by
  intro c q r doy c0 c1 q0 q1 r0 r1 d0 d1 d2 hx
  have e1 : (100 * c + 4 * q + r) / 4 = 25 * c + q := by clear hx d2 d0 d1; omega
  have e2 : (100 * c + 4 * q + r) / 100 = c := by clear hx d2 d0 d1 e1; omega
  have e3 : x - (365 * (100 * c + 4 * q + r) + (100 * c + 4 * q + r) / 4 - (100 * c + 4 * q + r) / 100) = doy := by rw [e1, e2, hx]; clear e1 e2 hx h0 h1 d2; omega
  have e4 : 0 ≤ 100 * c + 4 * q + r ∧ 100 * c + 4 * q + r ≤ 399 := by clear e1 e2 e3 hx h0 h1 d2; omega
  exact ⟨100 * c + 4 * q + r, doy, Cal.yoe' c q r doy x c0 c1 q0 q1 r0 r1 d0 d1 d2 hx, e3, e4.1, e4.2, d0, d1⟩
 have low : ∀ c r1 : Int, 0 ≤ c → c ≤ 3 → 0 ≤ r1 → x = 36524 * c + r1 → (r1 ≤ 36523 ∨ (r1 = 36524 ∧ c = 3)) → ∃ y doy, (x - x/1460 + x/36524 - x/146096)/365 = y ∧ x - (365 * y + y / 4 - y / 100) = doy ∧ 0 ≤ y ∧ y ≤ 399 ∧ 0 ≤ doy ∧ doy ≤ 365 := by
  intro c r1 c0 c1 r0 hx hr
  obtain ⟨q, hq⟩ : ∃ q, q = r1 / 1461 := ⟨_, rfl⟩
  obtain ⟨r2, hr2⟩ : ∃ r2, r2 = r1 - 1461 * q := ⟨_, rfl⟩
  have hqb : 0 ≤ q ∧ q ≤ 24 := by omega
  have hr2b : 0 ≤ r2 ∧ r2 ≤ 1460 := by omega
  have hx2 : x = 36524 * c + 1461 * q + r2 := by omega
  clear hq
  by_cases h : r2 = 1460
  ·refine fin c q 3 365 c0 c1 hqb.1 hqb.2 (by omega) (by omega) (by omega) (by omega) (fun _ => ⟨rfl, by omega⟩) (by omega)
  ·obtain ⟨r, hr⟩ : ∃ r, r = r2 / 365 := ⟨_, rfl⟩
   exact fin c q r (r2 - 365 * r) c0 c1 hqb.1 hqb.2 (by omega) (by omega) (by omega) (by omega) (fun e => by omega) (by omega)
 by_cases h : x = 146096
 ·exact low 3 36524 (by omega) (by omega) (by omega) (by omega) (.inr ⟨rfl, rfl⟩)
 ·obtain ⟨c, hc⟩ : ∃ c, c = x / 36524 := ⟨_, rfl⟩
  exact low c (x - 36524 * c) (by omega) (by omega) (by omega) (by omega) (.inl (by omega))
end Go.Proofs.YtmaffdhcmdhjfaaGreatDoor
namespace Go.Proofs.YtmaffdhcmdhjfaaGreatDoor
open Go.RowKit Go.Lib
set_option maxHeartbeats 3200000 in
set_option maxRecDepth 1000000 in
theorem civil_any (n : Int) (n0 : -700000 ≤ n) (n1 : n ≤ 1000000000) (w : World) :
 Calls Tryz.prog 140 #[.agg #[.int .i64 n]] w fun e w' => e = .returned (.tuple #[.int .i64 (Cal.civil n).1, .int .i64 (Cal.civil n).2.1, .int .i64 (Cal.civil n).2.2]) ∧ Ext w w' := by
 obtain ⟨z, hz⟩ : ∃ z, z = n + 719468 := ⟨_, rfl⟩
 obtain ⟨E, hE⟩ : ∃ E, E = z / 146097 := ⟨_, rfl⟩
 obtain ⟨O, hO⟩ : ∃ O, O = z - E * 146097 := ⟨_, rfl⟩
 have hOb : 0 ≤ O ∧ O ≤ 146096 := by omega
 have hEb : 0 ≤ E ∧ E ≤ 10000 := by omega
 have hzb : 0 ≤ z ∧ z ≤ 1100000000 := by omega
 obtain ⟨Y, D, hY, hD, y0, y1, d0, d1⟩ := doy_bd O hOb.1 hOb.2
 obtain ⟨M, hM⟩ : ∃ M, M = (5 * D + 2) / 153 := ⟨_, rfl⟩
 have hMb : 0 ≤ M ∧ M ≤ 11 := by clear hY hD hO hE hz; omega
 obtain ⟨P, hP⟩ : ∃ P, P = (153 * M + 2) / 5 := ⟨_, rfl⟩
 have hPb : 0 ≤ P ∧ P ≤ 400 := by clear hY hD hO hE hz hM; omega
 have hR : Cal.civil n = if M < 10 then (Y + E * 400, M + 3, D - P + 1) else (Y + E * 400 + 1, M - 9, D - P + 1) := by
  unfold Cal.civil
  simp only [← hz, ← hE, ← hO, hY, hD, ← hM, ← hP]
 obtain ⟨a1, h1⟩ : ∃ a, a = O / 1460 := ⟨_, rfl⟩
 obtain ⟨a2, h2⟩ : ∃ a, a = O / 36524 := ⟨_, rfl⟩
 obtain ⟨a3, h3⟩ : ∃ a, a = O / 146096 := ⟨_, rfl⟩
 obtain ⟨b1, h4⟩ : ∃ a, a = Y / 4 := ⟨_, rfl⟩
 obtain ⟨b2, h5⟩ : ∃ a, a = Y / 100 := ⟨_, rfl⟩
 have k1 : 0 ≤ a1 ∧ a1 ≤ 101 := by clear hY hD hO hE hz hM hP hR; omega
 have k2 : 0 ≤ a2 ∧ a2 ≤ 5 := by clear hY hD hO hE hz hM hP hR; omega
 have k3 : 0 ≤ a3 ∧ a3 ≤ 2 := by clear hY hD hO hE hz hM hP hR; omega
 have k4 : 0 ≤ b1 ∧ b1 ≤ 100 := by clear hY hD hO hE hz hM hP hR; omega
 have k5 : 0 ≤ b2 ∧ b2 ≤ 4 := by clear hY hD hO hE hz hM hP hR; omega
 have t1 : O.tdiv 1460 = a1 := by rw [h1]; exact Int.tdiv_eq_ediv_of_nonneg hOb.1
 have t2 : O.tdiv 36524 = a2 := by rw [h2]; exact Int.tdiv_eq_ediv_of_nonneg hOb.1
 have t3 : O.tdiv 146096 = a3 := by rw [h3]; exact Int.tdiv_eq_ediv_of_nonneg hOb.1
 have t4 : (O - a1 + a2 - a3).tdiv 365 = Y := by rw [← hY, h1, h2, h3]; exact Int.tdiv_eq_ediv_of_nonneg (by rw [← h1, ← h2, ← h3]; clear hY hD hO hE hz hM hP hR t1 t2 t3; omega)
 have t5 : Y.tdiv 4 = b1 := by rw [h4]; exact Int.tdiv_eq_ediv_of_nonneg y0
 have t6 : Y.tdiv 100 = b2 := by rw [h5]; exact Int.tdiv_eq_ediv_of_nonneg y0
 have t7 : O - (365 * Y + b1 - b2) = D := by rw [h4, h5]; exact hD
 have t8 : (5 * D + 2).tdiv 153 = M := by rw [hM]; exact Int.tdiv_eq_ediv_of_nonneg (by clear hY hD hO hE hz hM hP hR t1 t2 t3 t4 t5 t6 t7; omega)
 have t9 : (153 * M + 2).tdiv 5 = P := by rw [hP]; exact Int.tdiv_eq_ediv_of_nonneg (by clear hY hD hO hE hz hM hP hR t1 t2 t3 t4 t5 t6 t7 t8; omega)
 have HR := Lib.hid hR
 have HZ := Lib.hid hz
 have HO := Lib.hid hO
 have HE := Lib.hid hE
 clear hR hz hO hE hY hD hM hP h1 h2 h3 h4 h5
 obtain ⟨o1, o2⟩ := hOb
 obtain ⟨e1, e2⟩ := hEb
 obtain ⟨z1, z2⟩ := hzb
 obtain ⟨m1, m2⟩ := hMb
 obtain ⟨p1, p2⟩ := hPb
 obtain ⟨k11, k12⟩ := k1
 obtain ⟨k21, k22⟩ := k2
 obtain ⟨k31, k32⟩ := k3
 obtain ⟨k41, k42⟩ := k4
 obtain ⟨k51, k52⟩ := k5
 obtain ⟨R, hRR⟩ : ∃ R, R = Cal.civil n := ⟨_, rfl⟩
 rw [← hRR] at HR ⊢
 clear hRR
 have f0 := HZ.out.symm
 have f1 := HO.out.symm
 have T1 := Lib.hid t1
 have T2 := Lib.hid t2
 have T3 := Lib.hid t3
 have T4 := Lib.hid t4
 have T5 := Lib.hid t5
 have T6 := Lib.hid t6
 have T7 := Lib.hid t7
 have T8 := Lib.hid t8
 have T9 := Lib.hid t9
 clear f0 f1 t1 t2 t3 t4 t5 t6 t7 t8 t9
 go_enter Tryz.func140, Tryz.ntmps140
 have f0 := HZ.out.symm
 go_wp2_with fail
 go_at_call 139
 refine (zz_floor z 146097 (by omega) (by omega) (by omega) (by omega) _).mono ?_
 rintro e w1 ⟨rfl, rfl⟩
 rw [← HE.out]
 have f1 := HO.out.symm
 have t1 := T1.out
 have t2 := T2.out
 have t3 := T3.out
 have t4 := T4.out
 have t5 := T5.out
 have t6 := T6.out
 have t7 := T7.out
 have t8 := T8.out
 have t9 := T9.out
 clear f0
 by_cases h10 : M < 10
 ·have HR2 : Hid (R = (Y + E * 400, M + 3, D - P + 1)) := by show _ = _; rw [HR.out, if_pos h10]
  clear HR
  go_wp2_with fail
  go_ret3
  exact ⟨by rw [HR2.out]; rfl, Ext.alloc _ _⟩
 ·have HR2 : Hid (R = (Y + E * 400 + 1, M - 9, D - P + 1)) := by show _ = _; rw [HR.out, if_neg h10]
  clear HR
  go_wp2_with fail
  go_ret3
  exact ⟨by rw [HR2.out]; rfl, Ext.alloc _ _⟩
end Go.Proofs.YtmaffdhcmdhjfaaGreatDoor
namespace Go.Proofs.YtmaffdhcmdhjfaaGreatDoor
open Go.RowKit Go.Lib
structure DayIn (n : Int) : Prop where
 lo : -700000 ≤ n
 hi : n ≤ 1000000000
set_option maxHeartbeats 800000 in
set_option maxRecDepth 1000000 in
theorem day_any (n : Int) (hn : DayIn n) (w : World) :
 Calls Tryz.prog 189 #[.agg #[.int .i64 n]] w fun e w' => e = .returned (.int .i64 (Cal.civil n).2.2) ∧ Ext w w' := by
 have HC : Hid (∀ W, Calls Tryz.prog 140 #[.agg #[.int .i64 n]] W fun e w' => e = .returned (.tuple #[.int .i64 (Cal.civil n).1, .int .i64 (Cal.civil n).2.1, .int .i64 (Cal.civil n).2.2]) ∧ Ext W w') := fun W => civil_any n hn.lo hn.hi W
 generalize Cal.civil n = c at HC ⊢
 obtain ⟨cy, cm, cd⟩ := c
 simp only at HC ⊢
 go_enter Tryz.func189, Tryz.ntmps189
 go_wp2_with fail
 go_at_call 140
 refine (HC.out _).mono ?_
 rintro e w1 ⟨rfl, x1⟩
 go_wp2_with fail
 go_ret
 exact ⟨rfl, (Ext.alloc _ _).trans x1⟩
set_option maxHeartbeats 800000 in
set_option maxRecDepth 1000000 in
theorem month_any (n : Int) (hn : DayIn n) (w : World) :
 Calls Tryz.prog 206 #[.agg #[.int .i64 n]] w fun e w' => e = .returned (.int .i64 (Cal.civil n).2.1) ∧ Ext w w' := by
 have HC : Hid (∀ W, Calls Tryz.prog 140 #[.agg #[.int .i64 n]] W fun e w' => e = .returned (.tuple #[.int .i64 (Cal.civil n).1, .int .i64 (Cal.civil n).2.1, .int .i64 (Cal.civil n).2.2]) ∧ Ext W w') := fun W => civil_any n hn.lo hn.hi W
 generalize Cal.civil n = c at HC ⊢
 obtain ⟨cy, cm, cd⟩ := c
 simp only at HC ⊢
 go_enter Tryz.func206, Tryz.ntmps206
 go_wp2_with fail
 go_at_call 140
 refine (HC.out _).mono ?_
 rintro e w1 ⟨rfl, x1⟩
 go_wp2_with fail
 go_ret
 exact ⟨rfl, (Ext.alloc _ _).trans x1⟩
theorem tmod7 (n : Int) : ((n + 4).tmod 7 + 7).tmod 7 = (n + 4) % 7 := by
 rcases Int.le_total 0 (n + 4) with h | h
 ·rw [Int.tmod_eq_emod_of_nonneg h, Int.tmod_eq_emod_of_nonneg (by omega)]
  omega
 ·have e : (n + 4).tmod 7 = -((-(n + 4)) % 7) := by
   have h3 : (-(-(n + 4))).tmod 7 = -((-(n + 4)).tmod 7) := Int.neg_tmod _ _
   rw [Int.neg_neg, Int.tmod_eq_emod_of_nonneg (by omega : 0 ≤ -(n + 4))] at h3
   exact h3
  rw [e, Int.tmod_eq_emod_of_nonneg (by omega)]
  omega
set_option maxHeartbeats 800000 in
set_option maxRecDepth 1000000 in
theorem weekday_any (n : Int) (hn : DayIn n) (w : World) :
 Calls Tryz.prog 203 #[.agg #[.int .i64 n]] w fun e w' => e = .returned (.int .i64 ((n + 4) % 7)) ∧ Ext w w' := by
 obtain ⟨n0, n1⟩ := hn
 obtain ⟨a, ha⟩ : ∃ a, a = (n + 4).tmod 7 := ⟨_, rfl⟩
 have hab : -7 ≤ a ∧ a ≤ 7 := by
  have h1 := Int.tmod_lt_of_pos (n + 4) (b := 7) (by omega)
  have h2 := Int.tmod_lt_of_pos (-(n + 4)) (b := 7) (by omega)
  rw [Int.neg_tmod] at h2
  omega
 obtain ⟨r, hr⟩ : ∃ r, r = (n + 4) % 7 := ⟨_, rfl⟩
 have e2 : (a + 7).tmod 7 = r := by rw [ha, hr]; exact tmod7 n
 have hrb : 0 ≤ r ∧ r ≤ 6 := by omega
 rw [← hr]
 have HA := Lib.hid ha
 obtain ⟨a0, a1⟩ := hab
 obtain ⟨r0, r1⟩ := hrb
 clear ha hr
 have e1 := HA.out.symm
 go_enter Tryz.func203, Tryz.ntmps203
 go_wp2_with fail
 go_ret
 exact ⟨rfl, Ext.alloc _ _⟩
set_option maxHeartbeats 800000 in
set_option maxRecDepth 1000000 in
theorem work_any (n : Int) (hn : DayIn n) (w : World) :
 Calls Tryz.prog 200 #[.agg #[.int .i64 n]] w fun e w' => e = .returned (.bool (decide ((n + 4) % 7 ≠ 6) && decide ((n + 4) % 7 ≠ 0))) ∧ Ext w w' := by
 have HW : Hid (∀ W, Calls Tryz.prog 203 #[.agg #[.int .i64 n]] W fun e w' => e = .returned (.int .i64 ((n + 4) % 7)) ∧ Ext W w') := fun W => weekday_any n hn W
 have hA : (w.alloc (.cells #[.int .i64 n] 170)).cell? ⟨w.heap.size, 0, none⟩ = some (.int .i64 n) := by simp
 have HA := Lib.hid hA
 clear hn
 generalize (n + 4) % 7 = r at HW ⊢
 by_cases h6 : r = 6
 ·subst h6
  go_enter Tryz.func200, Tryz.ntmps200
  go_wp2_with fail
  go_at_call 203
  refine (HW.out _).mono ?_
  rintro e w1 ⟨rfl, x1⟩
  go_wp2_with fail
  go_ret
  exact ⟨rfl, (Ext.alloc _ _).trans x1⟩
 ·have hb6 : (r != 6) = true := by simp [h6]
  go_enter Tryz.func200, Tryz.ntmps200
  go_wp2_with fail
  go_at_call 203
  refine (HW.out _).mono ?_
  rintro e w1 ⟨rfl, x1⟩
  have hc := x1.cell HA.out
  have X1 := Lib.hid ((Ext.alloc w (.cells #[.int .i64 n] 170)).trans x1)
  clear x1
  go_wp2_with fail
  go_at_call 203
  refine (HW.out _).mono ?_
  rintro e w2 ⟨rfl, x2⟩
  go_wp2_with fail
  go_ret
  exact ⟨ret_bool (by simp [h6]; rw [bne, Bool.eq_iff_iff]; simp), X1.out.trans x2⟩
set_option maxHeartbeats 1600000 in
set_option maxRecDepth 1000000 in
theorem add_date (n y m d : Int) (hn : DayIn n) (cy cm cd : Int) (hc : Cal.civil n = (cy, cm, cd)) (hy : -2900000 ≤ cy ∧ cy ≤ 2900000) (hm : 0 ≤ cm ∧ cm ≤ 13) (hd : -100 ≤ cd ∧ cd ≤ 100)
 (y0 : -1000 ≤ y ∧ y ≤ 1000) (m0 : -1000 ≤ m ∧ m ≤ 1000) (d0 : -1000 ≤ d ∧ d ≤ 1000) (w : World) :
 Calls Tryz.prog 204 #[.agg #[.int .i64 n], .int .i64 y, .int .i64 m, .int .i64 d] w fun e w' => e = .returned (.agg #[.int .i64 (Cal.dayNum (cy + y) (cm + m) (cd + d))]) ∧ Ext w w' := by
 have HC : Hid (∀ W, Calls Tryz.prog 140 #[.agg #[.int .i64 n]] W fun e w' => e = .returned (.tuple #[.int .i64 cy, .int .i64 cm, .int .i64 cd]) ∧ Ext W w') := fun W => by
  have := civil_any n hn.lo hn.hi W
  rw [hc] at this
  exact this
 obtain ⟨y1, y2⟩ := hy
 obtain ⟨m1, m2⟩ := hm
 obtain ⟨d1, d2⟩ := hd
 obtain ⟨y3, y4⟩ := y0
 obtain ⟨m3, m4⟩ := m0
 obtain ⟨d3, d4⟩ := d0
 have hz := fun W => zz_day (cy + y) (cm + m) (cd + d) (by omega) (by omega) (by omega) (by omega) (by omega) (by omega) W
 generalize Cal.dayNum (cy + y) (cm + m) (cd + d) = k at hz ⊢
 have HZ := Lib.hid hz
 clear hz hc hn
 have hA : ((w.alloc (.cells #[.int .i64 n] 170)).alloc (.cells #[.int .i64 0] 170)).heap[w.heap.size + 1]? = some (.cells #[.int .i64 0] 170 (0, 0)) := by
  have := heap_alloc_new (w.alloc (.cells #[.int .i64 n] 170)) (.cells #[.int .i64 0] 170)
  simpa using this
 have HA := Lib.hid hA
 have hX0 : Ext w ((w.alloc (.cells #[.int .i64 n] 170)).alloc (.cells #[.int .i64 0] 170)) := (Ext.alloc _ _).trans (Ext.alloc _ _)
 have HX0 := Lib.hid hX0
 clear hA hX0
 go_enter Tryz.func204, Tryz.ntmps204
 go_wp2_with fail
 go_at_call 140
 refine (HC.out _).mono ?_
 rintro e w1 ⟨rfl, x1⟩
 have hb1 : w1.heap[w.heap.size + 1]? = some (.cells #[.int .i64 0] 170 (0, 0)) := by rw [Below.block x1 _ (block_lt HA.out)]; exact HA.out
 have X1 := Lib.hid (HX0.out.trans x1)
 have HB1 := Lib.hid hb1
 clear hb1 x1
 go_wp2_with fail
 go_at_call 166
 refine (HZ.out _).mono ?_
 rintro e w2 ⟨rfl, x2⟩
 have hb : w2.heap[w.heap.size + 1]? = some (.cells #[.int .i64 0] 170 (0, 0)) := by rw [Below.block x2 _ (block_lt HB1.out)]; exact HB1.out
 have hc : w2.cell? ⟨w.heap.size + 1, 0, none⟩ = some (.int .i64 0) := Joins.cell_of_block hb 0
 have hf : w2.frozen? ⟨w.heap.size + 1, 0, none⟩ = false := Joins.unfrozen_of_block hb 0
 have HB := Lib.hid hb
 have X2 := Lib.hid ((X1.out.trans x2).set (N := w.heap.size + 1) (by omega) 0 (.int .i64 k))
 clear hb x2
 go_wp2_with fail
 exact ret_date rfl rfl (one_setCell HB.out) ⟨rfl, X2.out⟩
theorem dayIn_of {y m d : Int} (h0 : 1900 ≤ y) (h1 : y ≤ 1000002) (m0 : 1 ≤ m) (m1 : m ≤ 14) (d0 : -40 ≤ d) (d1 : d ≤ 80) : DayIn (Cal.dayNum y m d) := by
 unfold Cal.dayNum
 constructor <;> (simp only; split <;> omega)
theorem month_end {y m : Int} (m0 : 1 ≤ m) (m1 : m ≤ 12) : Cal.dayNum y (m + 1) 0 = Cal.dayNum y m (Cal.mlen y m) := by
 rcases Int.lt_or_le m 12 with h | h
 ·have e := Cal.dayNum_next (y := y) m0 (by omega : m ≤ 11)
  have e1 := Cal.dayNum_add y (m + 1) 1 (-1)
  have e2 := Cal.dayNum_add y m 1 (Cal.mlen y m - 1)
  have e3 : (1 : Int) + (Cal.mlen y m - 1) = Cal.mlen y m := by omega
  rw [e3] at e2
  have e4 : (1 : Int) + -1 = 0 := by omega
  rw [e4] at e1
  omega
 ·have hm : m = 12 := by omega
  subst hm
  have e := Cal.dayNum_13 y 0
  have e1 := Cal.dayNum_year y
  have e2 := Cal.dayNum_add (y + 1) 1 1 (-1)
  have e3 := Cal.dayNum_add y 12 1 30
  have e4 : Cal.mlen y 12 = 31 := by unfold Cal.mlen; simp
  rw [e4]
  have e5 : (1 : Int) + 30 = 31 := by omega
  have e6 : (1 : Int) + -1 = 0 := by omega
  rw [e5] at e3
  rw [e6] at e2
  have e7 : (12 : Int) + 1 = 13 := by omega
  rw [e7]
  omega
set_option maxHeartbeats 1600000 in
set_option maxRecDepth 1000000 in
theorem last_day (y m : Int) (y0 : 1900 ≤ y) (y1 : y ≤ 1000001) (m0 : 1 ≤ m) (m1 : m ≤ 12) (w : World) :
 Calls Tryz.prog 210 #[.int .i64 y, .int .i64 m] w fun e w' => e = .returned (.int .i64 (Cal.mlen y m)) ∧ Ext w w' := by
 have hb := Cal.mlen_bd y m
 have hc1 : Cal.civil (Cal.dayNum y m 1) = (y, m, 1) := Cal.civil_dayNum ⟨m0, m1, by omega, by omega⟩
 have hc2 : Cal.civil (Cal.dayNum y m (Cal.mlen y m)) = (y, m, Cal.mlen y m) := Cal.civil_dayNum ⟨m0, m1, by omega, by omega⟩
 have hme := month_end (y := y) m0 m1
 have H1 : Hid (∀ W, Calls Tryz.prog 145 #[.int .i64 y, .int .i64 m, .int .i64 1] W fun e w' => e = .returned (.agg #[.int .i64 (Cal.dayNum y m 1)]) ∧ Ext W w') := fun W =>
  make_date y m 1 (by omega) (by omega) (by omega) (by omega) (by omega) (by omega) W
 have H2 : Hid (∀ W, Calls Tryz.prog 204 #[.agg #[.int .i64 (Cal.dayNum y m 1)], .int .i64 0, .int .i64 1, .int .i64 (-1)] W fun e w' => e = .returned (.agg #[.int .i64 (Cal.dayNum y m (Cal.mlen y m))]) ∧ Ext W w') := fun W => by
  have := add_date (Cal.dayNum y m 1) 0 1 (-1) (dayIn_of (by omega) (by omega) (by omega) (by omega) (by omega) (by omega)) y m 1 hc1 (by omega) (by omega) (by omega) (by omega) (by omega) (by omega) W
  rw [Int.add_zero, show (1 : Int) + -1 = 0 from rfl, hme] at this
  exact this
 have H3 : Hid (∀ W, Calls Tryz.prog 189 #[.agg #[.int .i64 (Cal.dayNum y m (Cal.mlen y m))]] W fun e w' => e = .returned (.int .i64 (Cal.mlen y m)) ∧ Ext W w') := fun W => by
  have := day_any (Cal.dayNum y m (Cal.mlen y m)) (dayIn_of (by omega) (by omega) (by omega) (by omega) (by omega) (by omega)) W
  rw [hc2] at this
  exact this
 generalize Cal.mlen y m = L at *
 generalize Cal.dayNum y m 1 = n1 at *
 generalize Cal.dayNum y m L = n2 at *
 clear hc1 hc2 hme
 go_enter Tryz.func210, Tryz.ntmps210
 go_wp2_with fail
 go_at_call 145
 refine (H1.out _).mono ?_
 rintro e w1 ⟨rfl, x1⟩
 have X1 := Lib.hid (x1.trans (Ext.alloc w1 (.cells #[.int .i64 n1] 170)))
 clear x1
 go_wp2_with fail
 go_at_call 204
 refine (H2.out _).mono ?_
 rintro e w2 ⟨rfl, x2⟩
 have X2 := Lib.hid (X1.out.trans x2)
 clear x2
 go_wp2_with fail
 go_at_call 189
 refine (H3.out _).mono ?_
 rintro e w3 ⟨rfl, x3⟩
 go_wp2_with fail
 go_ret
 exact ⟨rfl, X2.out.trans x3⟩
end Go.Proofs.YtmaffdhcmdhjfaaGreatDoor
namespace Go.Proofs.YtmaffdhcmdhjfaaGreatDoor
open Go.RowKit Go.Lib
def ListAt (W : World) (a : Option Addr) (l : List Int) : Prop := l ≠ [] → ∃ g, a = some ⟨g, 0, none⟩ ∧ ∀ (j : Nat) (z : Int), l[j]? = some z → W.cell? ⟨g, j, none⟩ = some (.int .i64 z)
theorem ListAt.ext {W W' : World} {a : Option Addr} {l : List Int} (h : ListAt W a l) (x : Ext W W') : ListAt W' a l := by
 intro hne
 obtain ⟨g, ha, hc⟩ := h hne
 exact ⟨g, ha, fun j z hj => x.cell (hc j z hj)⟩
structure NodeAt (W : World) (B : Nat) (v lo hi : Int) (a : Option Addr) (cap : Nat) (l : List Int) : Prop where
 v : W.cell? ⟨B, 0, none⟩ = some (.int .i64 v)
 lo : W.cell? ⟨B, 1, none⟩ = some (.int .i64 lo)
 hi : W.cell? ⟨B, 2, none⟩ = some (.int .i64 hi)
 sl : W.cell? ⟨B, 3, none⟩ = some (.slice a l.length cap)
 fz : W.frozen? ⟨B, 0, none⟩ = false
 ls : ListAt W a l
structure NodeS (B : Nat) (lo hi : Int) (a : Option Addr) (cap : Nat) (l : List Int) (S : Int → World → Prop) : Prop where
 at_ : ∀ v W, S v W → NodeAt W B v lo hi a cap l
 ext : ∀ v W W', S v W → Ext W W' → S v W'
 set : ∀ v v' W, S v W → S v' (W.setCell ⟨B, 0, none⟩ (.int .i64 v'))
 len : l.length ≤ 100000000
set_option maxHeartbeats 800000 in
set_option maxRecDepth 1000000 in
theorem node_value (B : Nat) (v : Int) (w : World) (h : w.cell? ⟨B, 0, none⟩ = some (.int .i64 v)) :
 Calls Tryz.prog 167 #[.pointer (some ⟨B, 0, none⟩)] w fun e w' => e = .returned (.int .i64 v) ∧ w = w' := by
 go_enter Tryz.func167, Tryz.ntmps167
 go_wp2_with fail
 go_ret
 exact ⟨rfl, rfl⟩
set_option maxHeartbeats 800000 in
set_option maxRecDepth 1000000 in
theorem has_range (B : Nat) (a : Option Addr) (cap n : Nat) (w : World) (h : w.cell? ⟨B, 3, none⟩ = some (.slice a n cap)) :
 Calls Tryz.prog 207 #[.pointer (some ⟨B, 0, none⟩)] w fun e w' => e = .returned (.bool (decide (0 < n))) ∧ w = w' := by
 go_enter Tryz.func207, Tryz.ntmps207
 go_wp2_with fail
 go_ret
 exact ⟨ret_bool (by rw [Bool.eq_iff_iff]; simp; omega), rfl⟩
theorem Ext.drewN (w : World) : ∀ k, Ext w (w.drewN k)
 | 0 => Ext.refl _
 | k + 1 => by
   have h := Ext.drewN w k
   exact h.trans (by first | exact Ext.drew _ | exact Ext.refl _)
set_option maxHeartbeats 800000 in
set_option maxRecDepth 1000000 in
theorem node_step {B : Nat} {lo hi : Int} {a : Option Addr} {cap : Nat} {l : List Int} {S : Int → World → Prop} (hS : NodeS B lo hi a cap l S) (v : Int) (v0 : -100 ≤ v) (v1 : v ≤ 10000000) (w : World) (h : S v w) :
 Calls Tryz.prog 209 #[.pointer (some ⟨B, 0, none⟩)] w fun e w' => e = .returned (.bool (decide (hi < v + 1))) ∧ S (if hi < v + 1 then lo else v + 1) w' := by
 obtain ⟨c0, c1, c2, c3, fz, _⟩ := hS.at_ v w h
 have h2 := hS.set v (v + 1) w h
 obtain ⟨e0, e1, e2, e3, fz2, _⟩ := hS.at_ (v + 1) _ h2
 have H2 := Lib.hid h2
 have HS := Lib.hid hS
 clear h h2 hS c3 e3
 by_cases hh : hi < v + 1
 ·rw [if_pos hh]
  go_enter Tryz.func209, Tryz.ntmps209
  go_wp2_with fail
  go_quiet (fail)
  have h3 := HS.out.ext _ _ _ H2.out (Ext.drewN _ nq)
  generalize (w.setCell ⟨B, 0, none⟩ (.int .i64 (v + 1))).drewN nq = w3 at h3 ⊢
  clear c0 c1 c2 fz e0 e1 e2 fz2
  obtain ⟨c0, c1, c2, _, fz, _⟩ := HS.out.at_ _ _ h3
  have H4 := Lib.hid (HS.out.set _ lo _ h3)
  clear h3
  go_wp2_with fail
  go_ret
  exact ⟨ret_bool (by simp; omega), H4.out⟩
 ·rw [if_neg hh]
  go_enter Tryz.func209, Tryz.ntmps209
  go_wp2_with fail
  go_quiet (fail)
  have h3 := Lib.hid (HS.out.ext _ _ _ H2.out (Ext.drewN _ nq))
  generalize (w.setCell ⟨B, 0, none⟩ (.int .i64 (v + 1))).drewN nq = w3 at h3 ⊢
  clear c0 c1 c2 fz e0 e1 e2 fz2
  go_wp2_with fail
  go_ret
  exact ⟨ret_bool (by simp; omega), h3.out⟩
theorem nxt_step {l : List Int} {v : Int} {k : Nat} {x : Int} (h : l[k]? = some x) (hn : Csm.nxt (l.take k) v = none) : Csm.nxt (l.take (k + 1)) v = if v < x then some x else none := by
 obtain ⟨hk, rfl⟩ := List.getElem?_eq_some_iff.mp h
 unfold Csm.nxt at hn ⊢
 rw [List.take_succ_eq_append_getElem hk, List.find?_append, hn]
 by_cases hv : v < l[k]
 ·simp [hv]
 ·simp [hv]
theorem nxt_some_of {l : List Int} {v : Int} {k : Nat} {x : Int} (h : l[k]? = some x) (hn : Csm.nxt (l.take k) v = none) (hv : v < x) : Csm.nxt l v = some x := by
 have h1 := nxt_step h hn
 rw [if_pos hv] at h1
 unfold Csm.nxt at h1 ⊢
 rw [← List.take_append_drop (k + 1) l, List.find?_append, h1]
 rfl
set_option maxHeartbeats 1600000 in
set_option maxRecDepth 1000000 in
theorem node_range {B : Nat} {lo hi : Int} {a : Option Addr} {cap : Nat} {l : List Int} {S : Int → World → Prop} (hS : NodeS B lo hi a cap l S) (hl : l ≠ []) (v : Int) (w : World) (h : S v w) :
 Calls Tryz.prog 208 #[.pointer (some ⟨B, 0, none⟩)] w fun e w' => e = .returned (.bool (Csm.cnext lo hi l v).2) ∧ S (Csm.cnext lo hi l v).1 w' := by
 obtain ⟨c0, c1, c2, c3, fz, ls⟩ := hS.at_ v w h
 obtain ⟨g, rfl, hls⟩ := ls hl
 have HLS := Lib.hid hls
 have hlen := hS.len
 obtain ⟨n, hn⟩ : ∃ n, n = l.length := ⟨_, rfl⟩
 have HN := Lib.hid hn
 have hpos : 0 < n := by rw [hn]; exact List.length_pos_iff.mpr hl
 rw [← hn] at c3 hlen
 obtain ⟨r, hr⟩ : ∃ r, r = Csm.cnext lo hi l v := ⟨_, rfl⟩
 rw [← hr]
 have HC : Hid (r = match Csm.nxt l v with | some x => (x, false) | none => (l.headD 0, true)) := by
  show _ = _
  rw [hr]
  unfold Csm.cnext
  cases l with
  | nil => exact absurd rfl hl
  | cons b t => rfl
 have hz0 : w.cell? ⟨g, 0, none⟩ = some (.int .i64 (l.headD 0)) := by
  cases l with
  | nil => exact absurd rfl hl
  | cons b t => exact hls 0 b rfl
 have HZ0 := Lib.hid hz0
 have H := Lib.hid h
 have HS := Lib.hid hS
 clear hls hn hz0 h hS hl hr
 go_enter Tryz.func208, Tryz.ntmps208
 go_wp2_with fail
 go_loop [10] (fun i => ∃ k : Nat, k ≤ n ∧ i = .int .i64 k ∧ Hid (Csm.nxt (l.take k) v = none)) (fun i => n - (RowKit.intOf i).toNat)
 case atStart => exact ⟨0, Nat.zero_le _, rfl, rfl⟩
 case round =>
  obtain ⟨k, hk, rfl, Hk⟩ := hrel
  by_cases hlt : k < n
  ·obtain ⟨x, hx⟩ : ∃ x, l[k]? = some x := ⟨_, List.getElem?_eq_getElem (by rw [← HN.out]; exact hlt)⟩
   have cx := HLS.out k x hx
   by_cases hv : v < x
   ·have HR : Hid (r = (x, false)) := by show _ = _; rw [HC.out, nxt_some_of hx Hk.out hv]
    have H2 := Lib.hid (HS.out.set v x w H.out)
    clear hx
    go_wp2_with fail
    go_ret
    exact ⟨by rw [HR.out]; rfl, by rw [HR.out]; exact H2.out⟩
   ·have HK : Hid (Csm.nxt (l.take (k + 1)) v = none) := by show _ = _; rw [nxt_step hx Hk.out, if_neg hv]
    clear hx
    go_wp2_with fail
    exact ⟨⟨k + 1, by omega, rfl, HK.out⟩, by simp only [RowKit.intOf]; omega⟩
  ·have HR : Hid (r = (l.headD 0, true)) := by
    show _ = _
    have e : l.take k = l := List.take_of_length_le (by rw [← HN.out]; omega)
    have hk2 := Hk.out
    rw [e] at hk2
    rw [HC.out, hk2]
   have cz := HZ0.out
   have H2 := Lib.hid (HS.out.set v (l.headD 0) w H.out)
   generalize l.headD 0 = z0 at *
   go_wp2_with fail
   go_ret
   exact ⟨by rw [HR.out]; rfl, by rw [HR.out]; exact H2.out⟩
set_option maxHeartbeats 800000 in
set_option maxRecDepth 1000000 in
theorem node_next {B : Nat} {lo hi : Int} {a : Option Addr} {cap : Nat} {l : List Int} {S : Int → World → Prop} (hS : NodeS B lo hi a cap l S) (v : Int) (v0 : -100 ≤ v) (v1 : v ≤ 10000000) (w : World) (h : S v w) :
 Calls Tryz.prog 194 #[.pointer (some ⟨B, 0, none⟩)] w fun e w' => e = .returned (.bool (Csm.cnext lo hi l v).2) ∧ S (Csm.cnext lo hi l v).1 w' := by
 have hc := (hS.at_ v w h).sl
 obtain ⟨r, hr⟩ : ∃ r, r = Csm.cnext lo hi l v := ⟨_, rfl⟩
 rw [← hr]
 have HS := Lib.hid hS
 have H := Lib.hid h
 rcases Nat.eq_zero_or_pos l.length with h0 | hpos
 ·have hl : l = [] := List.length_eq_zero_iff.mp h0
  have HR : Hid (r = if hi < v + 1 then (lo, true) else (v + 1, false)) := by
   show _ = _
   rw [hr, hl]; rfl
  rw [h0] at hc
  have hR := fun W => has_range B a cap 0 W
  have HST : Hid (∀ W, S v W → Calls Tryz.prog 209 #[.pointer (some ⟨B, 0, none⟩)] W fun e w' => e = .returned (.bool (decide (hi < v + 1))) ∧ S (if hi < v + 1 then lo else v + 1) w') := fun W hW => node_step hS v v0 v1 W hW
  have HC := Lib.hid hc
  clear hS h hr h0 hl hc
  go_enter Tryz.func194, Tryz.ntmps194
  go_wp2_with fail
  go_at_call 207
  refine (has_range B a cap 0 _ HC.out).mono ?_
  rintro e w1 ⟨rfl, rfl⟩
  go_wp2_with fail
  go_at_call 209
  refine (HST.out _ H.out).mono ?_
  rintro e w2 ⟨rfl, h2⟩
  have H2 := Lib.hid h2
  clear h2
  go_wp2_with fail
  go_ret
  refine ⟨?_, ?_⟩
  ·rw [HR.out]; split
   ·rename_i hh; exact ret_bool (by simp; omega)
   ·rename_i hh; exact ret_bool (by simp; omega)
  ·have h3 := H2.out
   rw [HR.out]
   split
   ·rename_i hh; rw [if_pos hh] at h3; exact h3
   ·rename_i hh; rw [if_neg hh] at h3; exact h3
 ·have HRG : Hid (∀ W, S v W → Calls Tryz.prog 208 #[.pointer (some ⟨B, 0, none⟩)] W fun e w' => e = .returned (.bool r.2) ∧ S r.1 w') := fun W hW => by
   rw [hr]; exact node_range hS (by rintro rfl; simp at hpos) v W hW
  have HC := Lib.hid hc
  have HP : Hid (decide (0 < l.length) = true) := by show _ = _; simpa using hpos
  clear hS h hr hc hpos
  go_enter Tryz.func194, Tryz.ntmps194
  go_wp2_with fail
  go_at_call 207
  refine (has_range B a cap _ _ HC.out).mono ?_
  rintro e w1 ⟨rfl, rfl⟩
  rw [HP.out]
  go_wp2_with fail
  go_at_call 208
  refine (HRG.out _ H.out).mono ?_
  rintro e w2 ⟨rfl, h2⟩
  have H2 := Lib.hid h2
  clear h2
  go_wp2_with fail
  go_ret
  exact ⟨rfl, H2.out⟩
set_option maxHeartbeats 800000 in
set_option maxRecDepth 1000000 in
theorem node_reset {B : Nat} {lo hi : Int} {a : Option Addr} {cap : Nat} {l : List Int} {S : Int → World → Prop} (hS : NodeS B lo hi a cap l S) (v : Int) (v0 : -100 ≤ hi) (v1 : hi ≤ 10000000) (w : World) (h : S v w) :
 Calls Tryz.prog 228 #[.pointer (some ⟨B, 0, none⟩)] w fun e w' => e = .returned (.tuple #[]) ∧ S (Csm.creset lo hi l) w' := by
 obtain ⟨c0, c1, c2, c3, fz, _⟩ := hS.at_ v w h
 have H2 := Lib.hid (hS.set v hi w h)
 have HN : Hid (∀ W, S hi W → Calls Tryz.prog 194 #[.pointer (some ⟨B, 0, none⟩)] W fun e w' => e = .returned (.bool (Csm.cnext lo hi l hi).2) ∧ S (Csm.cnext lo hi l hi).1 w') := fun W hW => node_next hS hi v0 v1 W hW
 unfold Csm.creset
 generalize Csm.cnext lo hi l hi = r at *
 clear hS h c1 c3
 go_enter Tryz.func228, Tryz.ntmps228
 go_wp2_with fail
 go_at_call 194
 refine (HN.out _ H2.out).mono ?_
 rintro e w2 ⟨rfl, h2⟩
 have H3 := Lib.hid h2
 clear h2
 go_wp2_with fail
 go_end0
 exact ⟨rfl, H3.out⟩
set_option maxHeartbeats 1600000 in
set_option maxRecDepth 1000000 in
theorem contains_any (a : Option Addr) (cap : Nat) (l : List Int) (z : Int) (hlen : l.length ≤ 100000000) (w : World) (hL : ListAt w a l) :
 Calls Tryz.prog 198 #[.slice a l.length cap, .int .i64 z] w fun e w' => e = .returned (.bool (l.contains z)) ∧ w = w' := by
 have HLS := Lib.hid hL
 obtain ⟨n, hn⟩ : ∃ n, n = l.length := ⟨_, rfl⟩
 have HN := Lib.hid hn
 rw [← hn] at hlen ⊢
 obtain ⟨r, hr⟩ : ∃ r, r = l.contains z := ⟨_, rfl⟩
 rw [← hr]
 have HR := Lib.hid hr
 clear hr hn hL
 go_enter Tryz.func198, Tryz.ntmps198
 go_wp2_with fail
 go_loop [9] (fun i => ∃ k : Nat, k ≤ n ∧ i = .int .i64 k ∧ Hid ((l.take k).contains z = false)) (fun i => n - (RowKit.intOf i).toNat)
 case atStart => exact ⟨0, Nat.zero_le _, rfl, rfl⟩
 case round =>
  obtain ⟨k, hk, rfl, Hk⟩ := hrel
  by_cases hlt : k < n
  ·obtain ⟨x, hx⟩ : ∃ x, l[k]? = some x := ⟨_, List.getElem?_eq_getElem (by rw [← HN.out]; exact hlt)⟩
   obtain ⟨g, rfl, hls⟩ := HLS.out (by rintro rfl; simp at hx)
   have cx := hls k x hx
   clear hls
   by_cases hz : z = x
   ·have HB : Hid (r = true) := by show _ = _; rw [HR.out, List.contains_iff_mem]; rw [hz]; exact List.mem_of_getElem? hx
    subst hz
    clear hx
    go_wp2_with fail
    go_ret
    exact ⟨ret_bool HB.out.symm, rfl⟩
   ·have HK : Hid ((l.take (k + 1)).contains z = false) := by
     show _ = _
     obtain ⟨hk2, hx2⟩ := List.getElem?_eq_some_iff.mp hx
     have h0 := Hk.out
     rw [List.take_succ_eq_append_getElem hk2, hx2]
     simp only [List.contains_eq_mem, List.mem_append, List.mem_singleton, decide_eq_false_iff_not, not_or] at h0 ⊢
     exact ⟨h0, hz⟩
    have hb : (z == x) = false := by simp [hz]
    clear hx
    go_wp2_with fail
    exact ⟨⟨k + 1, by omega, rfl, HK.out⟩, by simp only [RowKit.intOf]; omega⟩
  ·have HB : Hid (r = false) := by
    show _ = _
    have h0 := Hk.out
    rw [List.take_of_length_le (by rw [← HN.out]; omega)] at h0
    rw [HR.out, h0]
   go_wp2_with fail
   go_ret
   exact ⟨ret_bool HB.out.symm, rfl⟩
end Go.Proofs.YtmaffdhcmdhjfaaGreatDoor
namespace Go.Proofs.YtmaffdhcmdhjfaaGreatDoor
open Go.RowKit Go.Lib
set_option maxHeartbeats 1600000 in
set_option maxRecDepth 1000000 in
theorem node_valid {B : Nat} {lo hi : Int} {a : Option Addr} {cap : Nat} {l : List Int} {S : Int → World → Prop} (hS : NodeS B lo hi a cap l S) (v : Int) (w : World) (h : S v w) :
 Calls Tryz.prog 197 #[.pointer (some ⟨B, 0, none⟩)] w fun e w' => e = .returned (.bool (Csm.cvalid lo hi l v)) ∧ S v w' := by
 obtain ⟨c0, c1, c2, c3, fz, hls⟩ := hS.at_ v w h
 have HLS := Lib.hid hls
 have HLEN := Lib.hid hS.len
 obtain ⟨r, hr⟩ : ∃ r, r = Csm.cvalid lo hi l v := ⟨_, rfl⟩
 rw [← hr]
 obtain ⟨n, hn⟩ : ∃ n, n = l.length := ⟨_, rfl⟩
 have HN := Lib.hid hn
 rw [← hn] at c3
 have HR : Hid (r = (decide (lo ≤ v) && decide (v ≤ hi) && (decide (n = 0) || l.contains v))) := by
  show _ = _
  rw [hr, hn]
  unfold Csm.cvalid
  congr 2
  cases l <;> simp
 have HCT : Hid (∀ W, ListAt W a l → Calls Tryz.prog 198 #[.slice a n cap, .int .i64 v] W fun e w' => e = .returned (.bool (l.contains v)) ∧ W = w') := fun W hW => by
  rw [hn]; exact contains_any a cap l v hS.len W hW
 have HCS : Hid (∀ W, S v W → Calls Tryz.prog 198 #[.slice a n cap, .int .i64 v] W fun e w' => e = .returned (.bool (l.contains v)) ∧ S v w') := fun W hW => by
  refine (HCT.out W (hS.at_ _ _ hW).ls).mono ?_
  rintro e w' ⟨rfl, rfl⟩
  exact ⟨rfl, hW⟩
 generalize l.contains v = ct at HR HCT HCS
 have H := Lib.hid h
 have HS := Lib.hid hS
 clear hls h hS hr hn fz
 have tail : ∀ (b : Bool) (w2 : World), True := fun _ _ => trivial
 clear tail
 by_cases h1 : lo ≤ v
 ·by_cases h2 : v ≤ hi
  ·rcases Nat.eq_zero_or_pos n with h0 | hpos
   ·have HB : Hid (r = true) := by show _ = _; rw [HR.out]; simp [h1, h2, h0]
    go_enter Tryz.func197, Tryz.ntmps197
    go_wp2_with fail
    go_quiet (fail)
    have h3 := HS.out.ext _ _ _ H.out (Ext.drewN _ nq)
    have c4 := (HS.out.at_ _ _ h3).sl
    rw [← HN.out] at c4
    generalize w.drewN nq = w3 at h3 c4 ⊢
    have H3 := Lib.hid h3
    have C4 := Lib.hid c4
    clear h3 c0 c1 c2 c3 c4
    go_wp2_with fail
    go_at_call 207
    refine (has_range B a cap n _ C4.out).mono ?_
    rintro e w1 ⟨rfl, rfl⟩
    rw [h0]
    go_wp2_with fail
    go_ret
    exact ⟨ret_bool HB.out.symm, H3.out⟩
   ·have HB : Hid (r = ct) := by show _ = _; rw [HR.out]; simp [h1, h2]; omega
    have hp : decide (0 < n) = true := by simpa using hpos
    have HP := Lib.hid hp
    go_enter Tryz.func197, Tryz.ntmps197
    go_wp2_with fail
    go_quiet (fail)
    have h3 := HS.out.ext _ _ _ H.out (Ext.drewN _ nq)
    have c4 := (HS.out.at_ _ _ h3).sl
    rw [← HN.out] at c4
    generalize w.drewN nq = w3 at h3 c4 ⊢
    have H3 := Lib.hid h3
    have C4 := Lib.hid c4
    clear h3 c0 c1 c2 c3 c4 hp hpos
    go_wp2_with fail
    go_at_call 207
    refine (has_range B a cap n _ C4.out).mono ?_
    rintro e w1 ⟨rfl, rfl⟩
    rw [HP.out]
    have c0 := (HS.out.at_ _ _ H3.out).v
    have c3 := C4.out
    have hl3 := (HS.out.at_ _ _ H3.out).ls
    have HL3 := Lib.hid hl3
    clear hl3
    go_wp2_with fail
    obtain ⟨T, g, hT, h0, hS2, hI⟩ := cls_intro (S v) _ (HS.out.ext _ _ _ H3.out (Ext.drew w3))
    have q0 := fun t => (HS.out.at_ _ _ (hS2 t)).v
    have q3 : ∀ t, (g t).cell? ⟨B, 3, none⟩ = some (.slice a n cap) := fun t => by
     have := (HS.out.at_ _ _ (hS2 t)).sl
     rw [← HN.out] at this
     exact this
    have HS2 := Lib.hid hS2
    have HI := Lib.hid hI
    clear hS2 hI c0 c3
    refine wp_region_cls g (by kernel_rfl) (by kernel_rfl) h0 ?_
    clear h0
    repeat (go_big_quiet_step (first
     | (go_at_call 198; exact calls_cls HI.out (HCS.out _ (HS2.out _)))))
    refine wpQuiet_nil ?_
    rintro _ ⟨t, rfl⟩
    clear q0 q3
    have h4 := Lib.hid (HS2.out t)
    generalize g t = w4 at h4 ⊢
    go_wp2_with fail
    go_ret
    exact ⟨ret_bool HB.out.symm, h4.out⟩
  ·have HB : Hid (r = false) := by show _ = _; rw [HR.out]; simp [h2]
   have b1 : decide (lo ≤ v) = true := by simp [h1]
   have b2 : decide (v ≤ hi) = false := by simp [h2]
   go_enter Tryz.func197, Tryz.ntmps197
   go_wp2_with fail
   go_quiet (fail)
   have h3 := HS.out.ext _ _ _ H.out (Ext.drewN _ nq)
   have c4 := (HS.out.at_ _ _ h3).sl
   rw [← HN.out] at c4
   generalize w.drewN nq = w3 at h3 c4 ⊢
   have H3 := Lib.hid h3
   have C4 := Lib.hid c4
   clear h3 c0 c1 c2 c3 c4
   go_wp2_with fail
   go_at_call 207
   refine (has_range B a cap n _ C4.out).mono ?_
   rintro e w1 ⟨rfl, rfl⟩
   rcases hp : decide (0 < n)
   ·clear hp
    go_wp2_with fail
    go_ret
    exact ⟨ret_bool HB.out.symm, H3.out⟩
   ·clear hp
    go_wp2_with fail
    go_quiet (fail)
    have h4 := Lib.hid (HS.out.ext _ _ _ H3.out (Ext.drewN _ nq))
    generalize w3.drewN nq = w4 at h4 ⊢
    go_wp2_with fail
    go_ret
    exact ⟨ret_bool HB.out.symm, h4.out⟩
 ·have HB : Hid (r = false) := by show _ = _; rw [HR.out]; simp [h1]
  have b1 : decide (lo ≤ v) = false := by simp [h1]
  go_enter Tryz.func197, Tryz.ntmps197
  go_wp2_with fail
  go_quiet (fail)
  have h3 := HS.out.ext _ _ _ H.out (Ext.drewN _ nq)
  have c4 := (HS.out.at_ _ _ h3).sl
  rw [← HN.out] at c4
  generalize w.drewN nq = w3 at h3 c4 ⊢
  have H3 := Lib.hid h3
  have C4 := Lib.hid c4
  clear h3 c0 c1 c2 c3 c4
  go_wp2_with fail
  go_at_call 207
  refine (has_range B a cap n _ C4.out).mono ?_
  rintro e w1 ⟨rfl, rfl⟩
  rcases hp : decide (0 < n)
  ·clear hp
   go_wp2_with fail
   go_ret
   exact ⟨ret_bool HB.out.symm, H3.out⟩
  ·clear hp
   go_wp2_with fail
   go_quiet (fail)
   have h4 := Lib.hid (HS.out.ext _ _ _ H3.out (Ext.drewN _ nq))
   generalize w3.drewN nq = w4 at h4 ⊢
   go_wp2_with fail
   go_ret
   exact ⟨ret_bool HB.out.symm, h4.out⟩
def cfind (lo hi : Int) (l : List Int) (v : Int) : Int × Int :=
 if Csm.cvalid lo hi l v then (v, 0) else ((Csm.cnext lo hi l v).1, if (Csm.cnext lo hi l v).2 then 2 else 1)
set_option maxHeartbeats 800000 in
set_option maxRecDepth 1000000 in
theorem node_find {B : Nat} {lo hi : Int} {a : Option Addr} {cap : Nat} {l : List Int} {S : Int → World → Prop} (hS : NodeS B lo hi a cap l S) (v : Int) (v0 : -100 ≤ v) (v1 : v ≤ 10000000) (w : World) (h : S v w) :
 Calls Tryz.prog 229 #[.pointer (some ⟨B, 0, none⟩)] w fun e w' => e = .returned (.int .i64 (cfind lo hi l v).2) ∧ S (cfind lo hi l v).1 w' := by
 have HV : Hid (∀ W, S v W → Calls Tryz.prog 197 #[.pointer (some ⟨B, 0, none⟩)] W fun e w' => e = .returned (.bool (Csm.cvalid lo hi l v)) ∧ S v w') := fun W hW => node_valid hS v W hW
 have HN : Hid (∀ W, S v W → Calls Tryz.prog 194 #[.pointer (some ⟨B, 0, none⟩)] W fun e w' => e = .returned (.bool (Csm.cnext lo hi l v).2) ∧ S (Csm.cnext lo hi l v).1 w') := fun W hW => node_next hS v v0 v1 W hW
 obtain ⟨r, hr⟩ : ∃ r, r = cfind lo hi l v := ⟨_, rfl⟩
 rw [← hr]
 have HR : Hid (r = if Csm.cvalid lo hi l v then (v, 0) else ((Csm.cnext lo hi l v).1, if (Csm.cnext lo hi l v).2 then 2 else 1)) := hr
 generalize Csm.cvalid lo hi l v = b at *
 generalize Csm.cnext lo hi l v = q at *
 obtain ⟨q1, q2⟩ := q
 simp only at HN HR
 have H := Lib.hid h
 clear hS h hr
 go_enter Tryz.func229, Tryz.ntmps229
 go_wp2_with fail
 go_at_call 197
 refine (HV.out _ H.out).mono ?_
 rintro e w1 ⟨rfl, h1⟩
 have H1 := Lib.hid h1
 clear h1
 rcases b
 ·go_wp2_with fail
  go_at_call 194
  refine (HN.out _ H1.out).mono ?_
  rintro e w2 ⟨rfl, h2⟩
  have H2 := Lib.hid h2
  clear h2
  rcases q2
  ·have HB : Hid (r = (q1, 1)) := by show _ = _; rw [HR.out]; rfl
   go_wp2_with fail
   go_ret
   exact ⟨by rw [HB.out]; rfl, by rw [HB.out]; exact H2.out⟩
  ·have HB : Hid (r = (q1, 2)) := by show _ = _; rw [HR.out]; rfl
   go_wp2_with fail
   go_ret
   exact ⟨by rw [HB.out]; rfl, by rw [HB.out]; exact H2.out⟩
 ·have HB : Hid (r = (v, 0)) := by show _ = _; rw [HR.out]; rfl
  go_wp2_with fail
  go_ret
  exact ⟨by rw [HB.out]; rfl, by rw [HB.out]; exact H1.out⟩
end Go.Proofs.YtmaffdhcmdhjfaaGreatDoor
