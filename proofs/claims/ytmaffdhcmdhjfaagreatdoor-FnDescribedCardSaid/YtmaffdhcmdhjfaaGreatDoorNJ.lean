/- spec.ByYears, spec.Stated. spec.Taken. laws.asked. -/
import Derived.Test.YtmaffdhcmdhjfaaGreatDoorNH
import Derived.Test.YtmaffdhcmdhjfaaGreatDoorNI
set_option linter.unusedSimpArgs false
set_option linter.unusedVariables false
namespace Go.Proofs.YtmaffdhcmdhjfaaGreatDoor
open Go.RowKit Go.Lib
attribute [local go_sem ↓] execOp_loadCron
def CronV.byYears (c : CronV) : Bool := !c.six && toldK (c.p 6).k
set_option maxHeartbeats 3200000 in
set_option maxRecDepth 1000000 in
theorem by_years (c : CronV) (w : World) :
 Calls Tryz.prog 27 #[.agg c.cells] w fun e w' => e = .returned (.bool c.byYears) ∧ Ext w w' := by
 have hC := cron_alloc w c
 have HX : Hid (Ext w (w.alloc (.cells c.cells 27))) := Ext.alloc _ _
 have d0 := hC.k 6 (by omega)
 have d1 := hC.a 6 (by omega)
 have d2 := hC.b 6 (by omega)
 have d3 := hC.s 6 (by omega)
 have d4 := hC.n 6 (by omega)
 have d5 := hC.it 6 (by omega)
 have d6 := hC.six
 have HB : Hid (c.byYears = (!c.six && toldK (c.p 6).k)) := rfl
 have HTC : Hid (∀ W, Calls Tryz.prog 36 #[.agg #[.int .i64 (c.p 6).k, .int .i64 (c.p 6).a, .int .i64 (c.p 6).b, .int .i64 (c.p 6).s, .int .i64 (c.p 6).n, .slice (c.p 6).ia (c.p 6).items.length (c.p 6).cap]] W fun e w' => e = .returned (.bool (toldK (c.p 6).k)) ∧ Ext W w') := fun W => told_part _ W
 generalize hR : c.byYears = R at *
 generalize c.p 6 = p6 at *
 generalize c.six = six at *
 generalize c.cells = C at *
 obtain ⟨T, hT⟩ : ∃ T, T = toldK p6.k := ⟨_, rfl⟩
 rw [← hT] at HB HTC
 obtain ⟨q0, q1, q2, q3, q4, q5, q6, q7⟩ := p6
 obtain ⟨L8, hL8⟩ : ∃ L8, L8 = q7.length := ⟨_, rfl⟩
 simp only at d0 d1 d2 d3 d4 d5 HTC
 rw [← hL8] at d5 HTC
 clear hL8 hT hR hC
 rcases six
 ·have HB2 : Hid (T = R) := by show _ = _; rw [HB.out]; rfl
  go_enter Tryz.func27, Tryz.ntmps27
  go_wp2_with fail
  go_at_call 36
  refine (HTC.out _).mono ?_
  rintro e w4 ⟨rfl, x4⟩
  go_wp2_with fail
  go_ret
  exact ⟨by rw [HB2.out]; rfl, HX.out.trans x4⟩
 ·have HB2 : Hid (false = R) := by show _ = _; rw [HB.out]; rfl
  go_enter Tryz.func27, Tryz.ntmps27
  go_wp2_with fail
  go_ret
  exact ⟨by rw [← HB2.out]; rfl, HX.out⟩
def CronV.statedB (c : CronV) : Bool :=
 !((((c.p 5).k == 13) && ((c.p 5).b == 5)) || (((c.p 3).k == 10) && ((c.p 3).a == 2))) && (!c.byYears || decide (((c.p 5).nums 5).length < 2))
set_option maxHeartbeats 6400000 in
set_option maxRecDepth 1000000 in
theorem stated1 (c : CronV) (h5 : (c.p 5).rightB 5 = true) (w : World) (hI : CronItems w c) (h0 : ((c.p 5).k == 13) = true) (h1 : ((c.p 5).b == 5) = true) :
 Calls Tryz.prog 29 #[.agg c.cells] w fun e w' => e = .returned (.bool c.statedB) ∧ Ext w w' := by
 have hC := cron_alloc w c
 have HX : Hid (Ext w (w.alloc (.cells c.cells 27))) := Ext.alloc _ _
 have d0 := hC.k 5 (by omega)
 have d2 := hC.b 5 (by omega)
 have e0 := hC.k 3 (by omega)
 have e1 := hC.a 3 (by omega)
 have hcw := hC.whole
 have HS : Hid (c.statedB = false) := by
  show _ = _; unfold CronV.statedB; rw [h0, h1]; simp
 generalize hR : c.statedB = R at *
 generalize (c.p 3).k = k3 at *
 generalize (c.p 3).a = a3 at *
 generalize (c.p 5).k = q0 at *
 generalize (c.p 5).b = q2 at *
 clear hR h5 hI hC
 go_enter Tryz.func29, Tryz.ntmps29
 go_wp2_with fail
 go_ret
 exact ⟨ret_bool HS.out.symm, HX.out⟩
set_option maxHeartbeats 6400000 in
set_option maxRecDepth 1000000 in
theorem stated2 (c : CronV) (h5 : (c.p 5).rightB 5 = true) (w : World) (hI : CronItems w c) (h0 : ((c.p 5).k == 13) = true) (h1 : ((c.p 5).b == 5) = false) (h2 : ((c.p 3).k == 10) = true) (h3 : ((c.p 3).a == 2) = true) :
 Calls Tryz.prog 29 #[.agg c.cells] w fun e w' => e = .returned (.bool c.statedB) ∧ Ext w w' := by
 have hC := cron_alloc w c
 have HX : Hid (Ext w (w.alloc (.cells c.cells 27))) := Ext.alloc _ _
 have d0 := hC.k 5 (by omega)
 have d2 := hC.b 5 (by omega)
 have e0 := hC.k 3 (by omega)
 have e1 := hC.a 3 (by omega)
 have hcw := hC.whole
 have HS : Hid (c.statedB = false) := by
  show _ = _; unfold CronV.statedB; rw [h0, h1, h2, h3]; simp
 generalize hR : c.statedB = R at *
 generalize (c.p 3).k = k3 at *
 generalize (c.p 3).a = a3 at *
 generalize (c.p 5).k = q0 at *
 generalize (c.p 5).b = q2 at *
 clear hR h5 hI hC
 go_enter Tryz.func29, Tryz.ntmps29
 go_wp2_with fail
 go_ret
 exact ⟨ret_bool HS.out.symm, HX.out⟩
set_option maxHeartbeats 6400000 in
set_option maxRecDepth 1000000 in
theorem stated3 (c : CronV) (h5 : (c.p 5).rightB 5 = true) (w : World) (hI : CronItems w c) (h0 : ((c.p 5).k == 13) = false) (h1 : ((c.p 3).k == 10) = true) (h2 : ((c.p 3).a == 2) = true) :
 Calls Tryz.prog 29 #[.agg c.cells] w fun e w' => e = .returned (.bool c.statedB) ∧ Ext w w' := by
 have hC := cron_alloc w c
 have HX : Hid (Ext w (w.alloc (.cells c.cells 27))) := Ext.alloc _ _
 have d0 := hC.k 5 (by omega)
 have d2 := hC.b 5 (by omega)
 have e0 := hC.k 3 (by omega)
 have e1 := hC.a 3 (by omega)
 have hcw := hC.whole
 have HS : Hid (c.statedB = false) := by
  show _ = _; unfold CronV.statedB; rw [h0, h1, h2]; simp
 generalize hR : c.statedB = R at *
 generalize (c.p 3).k = k3 at *
 generalize (c.p 3).a = a3 at *
 generalize (c.p 5).k = q0 at *
 generalize (c.p 5).b = q2 at *
 clear hR h5 hI hC
 go_enter Tryz.func29, Tryz.ntmps29
 go_wp2_with fail
 go_ret
 exact ⟨ret_bool HS.out.symm, HX.out⟩
set_option maxHeartbeats 6400000 in
set_option maxRecDepth 1000000 in
theorem stated4 (c : CronV) (h5 : (c.p 5).rightB 5 = true) (w : World) (hI : CronItems w c) (h0 : ((c.p 5).k == 13) = true) (h1 : ((c.p 5).b == 5) = false) (h2 : ((c.p 3).k == 10) = true) (h3 : ((c.p 3).a == 2) = false) :
 Calls Tryz.prog 29 #[.agg c.cells] w fun e w' => e = .returned (.bool c.statedB) ∧ Ext w w' := by
 have hC := cron_alloc w c
 have HX : Hid (Ext w (w.alloc (.cells c.cells 27))) := Ext.alloc _ _
 have d0 := hC.k 5 (by omega)
 have d2 := hC.b 5 (by omega)
 have e0 := hC.k 3 (by omega)
 have e1 := hC.a 3 (by omega)
 have hcw := hC.whole
 have HYC : Hid (∀ W, Calls Tryz.prog 27 #[.agg c.cells] W fun e w' => e = .returned (.bool c.byYears) ∧ Ext W w') := fun W => by_years c W
 have HNC : Hid (∀ W, Ext w W → Calls Tryz.prog 42 #[.int .i64 5, .agg #[.int .i64 (c.p 5).k, .int .i64 (c.p 5).a, .int .i64 (c.p 5).b, .int .i64 (c.p 5).s, .int .i64 (c.p 5).n, .slice (c.p 5).ia (c.p 5).items.length (c.p 5).cap]] W (NumPost W ((c.p 5).nums 5))) := fun W hW =>
  numbers_part 5 (by omega) (c.p 5) h5 W ((hI 5 (by omega)).ext hW)
 obtain ⟨Y, hY⟩ : ∃ Y, Y = c.byYears := ⟨_, rfl⟩
 obtain ⟨ns, hns⟩ : ∃ ns, ns = (c.p 5).nums 5 := ⟨_, rfl⟩
 have HS : Hid (c.statedB = (!Y || decide (ns.length < 2))) := by
  show _ = _; unfold CronV.statedB; rw [h0, h1, h2, h3, ← hY, ← hns]; simp
 generalize hR : c.statedB = R at *
 rw [← hY] at HYC
 rw [← hns] at HNC
 have hl : ns.length ≤ 30000 := by rw [hns]; exact nums_len h5
 clear hY hns hR h5
 have HC5 : Hid (∀ W, Ext (w.alloc (.cells c.cells 27)) W → W.cell? ⟨w.heap.size, 30, none⟩ = some (.int .i64 (c.p 5).k) ∧ W.cell? ⟨w.heap.size, 31, none⟩ = some (.int .i64 (c.p 5).a) ∧ W.cell? ⟨w.heap.size, 32, none⟩ = some (.int .i64 (c.p 5).b) ∧ W.cell? ⟨w.heap.size, 33, none⟩ = some (.int .i64 (c.p 5).s) ∧ W.cell? ⟨w.heap.size, 34, none⟩ = some (.int .i64 (c.p 5).n) ∧ W.cell? ⟨w.heap.size, 35, none⟩ = some (.slice (c.p 5).ia (c.p 5).items.length (c.p 5).cap)) := fun W hW => by
  have hD := hC.ext hW
  exact ⟨hD.k 5 (by omega), hD.a 5 (by omega), hD.b 5 (by omega), hD.s 5 (by omega), hD.n 5 (by omega), hD.it 5 (by omega)⟩
 clear hC hI
 generalize (c.p 3).k = k3 at *
 generalize (c.p 3).a = a3 at *
 generalize c.p 5 = p5 at *
 obtain ⟨q0, q1, q2, q3, q4, q5, q6, q7⟩ := p5
 obtain ⟨L8, hL8⟩ : ∃ L8, L8 = q7.length := ⟨_, rfl⟩
 simp only at d0 d2 HNC HC5 h0 h1 h2 h3
 rw [← hL8] at HNC HC5
 clear hL8
 go_enter Tryz.func29, Tryz.ntmps29
 go_wp2_with fail
 go_at_call 27
 refine (HYC.out _).mono ?_
 rintro e w4 ⟨rfl, x4⟩
 obtain ⟨f0, f1, f2, f3, f4, f5⟩ := HC5.out _ x4
 have X4 := Lib.hid (HX.out.trans x4)
 clear x4 d0 d2 e0 e1 hcw h0 h1 h2 h3
 rcases Y
 ·go_wp2_with fail
  go_ret
  exact ⟨ret_bool (by rw [HS.out]; rfl), X4.out⟩
 ·go_wp2_with fail
  go_at_call 42
  refine (HNC.out _ X4.out).mono ?_
  rintro e w7 ⟨v7, rfl, hI7, x7⟩
  obtain ⟨al, cl, hal⟩ := own_any hI7
  obtain ⟨ml, hml⟩ : ∃ ml, ml = ns.length := ⟨_, rfl⟩
  rw [← hml] at hal HS hl
  subst hal
  clear hml hI7
  go_wp2_with fail
  go_ret
  exact ⟨ret_bool (by rw [HS.out]; simp; omega), X4.out.trans x7⟩
set_option maxHeartbeats 6400000 in
set_option maxRecDepth 1000000 in
theorem stated5 (c : CronV) (h5 : (c.p 5).rightB 5 = true) (w : World) (hI : CronItems w c) (h0 : ((c.p 5).k == 13) = true) (h1 : ((c.p 5).b == 5) = false) (h2 : ((c.p 3).k == 10) = false) :
 Calls Tryz.prog 29 #[.agg c.cells] w fun e w' => e = .returned (.bool c.statedB) ∧ Ext w w' := by
 have hC := cron_alloc w c
 have HX : Hid (Ext w (w.alloc (.cells c.cells 27))) := Ext.alloc _ _
 have d0 := hC.k 5 (by omega)
 have d2 := hC.b 5 (by omega)
 have e0 := hC.k 3 (by omega)
 have e1 := hC.a 3 (by omega)
 have hcw := hC.whole
 have HYC : Hid (∀ W, Calls Tryz.prog 27 #[.agg c.cells] W fun e w' => e = .returned (.bool c.byYears) ∧ Ext W w') := fun W => by_years c W
 have HNC : Hid (∀ W, Ext w W → Calls Tryz.prog 42 #[.int .i64 5, .agg #[.int .i64 (c.p 5).k, .int .i64 (c.p 5).a, .int .i64 (c.p 5).b, .int .i64 (c.p 5).s, .int .i64 (c.p 5).n, .slice (c.p 5).ia (c.p 5).items.length (c.p 5).cap]] W (NumPost W ((c.p 5).nums 5))) := fun W hW =>
  numbers_part 5 (by omega) (c.p 5) h5 W ((hI 5 (by omega)).ext hW)
 obtain ⟨Y, hY⟩ : ∃ Y, Y = c.byYears := ⟨_, rfl⟩
 obtain ⟨ns, hns⟩ : ∃ ns, ns = (c.p 5).nums 5 := ⟨_, rfl⟩
 have HS : Hid (c.statedB = (!Y || decide (ns.length < 2))) := by
  show _ = _; unfold CronV.statedB; rw [h0, h1, h2, ← hY, ← hns]; simp
 generalize hR : c.statedB = R at *
 rw [← hY] at HYC
 rw [← hns] at HNC
 have hl : ns.length ≤ 30000 := by rw [hns]; exact nums_len h5
 clear hY hns hR h5
 have HC5 : Hid (∀ W, Ext (w.alloc (.cells c.cells 27)) W → W.cell? ⟨w.heap.size, 30, none⟩ = some (.int .i64 (c.p 5).k) ∧ W.cell? ⟨w.heap.size, 31, none⟩ = some (.int .i64 (c.p 5).a) ∧ W.cell? ⟨w.heap.size, 32, none⟩ = some (.int .i64 (c.p 5).b) ∧ W.cell? ⟨w.heap.size, 33, none⟩ = some (.int .i64 (c.p 5).s) ∧ W.cell? ⟨w.heap.size, 34, none⟩ = some (.int .i64 (c.p 5).n) ∧ W.cell? ⟨w.heap.size, 35, none⟩ = some (.slice (c.p 5).ia (c.p 5).items.length (c.p 5).cap)) := fun W hW => by
  have hD := hC.ext hW
  exact ⟨hD.k 5 (by omega), hD.a 5 (by omega), hD.b 5 (by omega), hD.s 5 (by omega), hD.n 5 (by omega), hD.it 5 (by omega)⟩
 clear hC hI
 generalize (c.p 3).k = k3 at *
 generalize (c.p 3).a = a3 at *
 generalize c.p 5 = p5 at *
 obtain ⟨q0, q1, q2, q3, q4, q5, q6, q7⟩ := p5
 obtain ⟨L8, hL8⟩ : ∃ L8, L8 = q7.length := ⟨_, rfl⟩
 simp only at d0 d2 HNC HC5 h0 h1 h2
 rw [← hL8] at HNC HC5
 clear hL8
 go_enter Tryz.func29, Tryz.ntmps29
 go_wp2_with fail
 go_at_call 27
 refine (HYC.out _).mono ?_
 rintro e w4 ⟨rfl, x4⟩
 obtain ⟨f0, f1, f2, f3, f4, f5⟩ := HC5.out _ x4
 have X4 := Lib.hid (HX.out.trans x4)
 clear x4 d0 d2 e0 e1 hcw h0 h1 h2
 rcases Y
 ·go_wp2_with fail
  go_ret
  exact ⟨ret_bool (by rw [HS.out]; rfl), X4.out⟩
 ·go_wp2_with fail
  go_at_call 42
  refine (HNC.out _ X4.out).mono ?_
  rintro e w7 ⟨v7, rfl, hI7, x7⟩
  obtain ⟨al, cl, hal⟩ := own_any hI7
  obtain ⟨ml, hml⟩ : ∃ ml, ml = ns.length := ⟨_, rfl⟩
  rw [← hml] at hal HS hl
  subst hal
  clear hml hI7
  go_wp2_with fail
  go_ret
  exact ⟨ret_bool (by rw [HS.out]; simp; omega), X4.out.trans x7⟩
set_option maxHeartbeats 6400000 in
set_option maxRecDepth 1000000 in
theorem stated6 (c : CronV) (h5 : (c.p 5).rightB 5 = true) (w : World) (hI : CronItems w c) (h0 : ((c.p 5).k == 13) = false) (h1 : ((c.p 3).k == 10) = true) (h2 : ((c.p 3).a == 2) = false) :
 Calls Tryz.prog 29 #[.agg c.cells] w fun e w' => e = .returned (.bool c.statedB) ∧ Ext w w' := by
 have hC := cron_alloc w c
 have HX : Hid (Ext w (w.alloc (.cells c.cells 27))) := Ext.alloc _ _
 have d0 := hC.k 5 (by omega)
 have d2 := hC.b 5 (by omega)
 have e0 := hC.k 3 (by omega)
 have e1 := hC.a 3 (by omega)
 have hcw := hC.whole
 have HYC : Hid (∀ W, Calls Tryz.prog 27 #[.agg c.cells] W fun e w' => e = .returned (.bool c.byYears) ∧ Ext W w') := fun W => by_years c W
 have HNC : Hid (∀ W, Ext w W → Calls Tryz.prog 42 #[.int .i64 5, .agg #[.int .i64 (c.p 5).k, .int .i64 (c.p 5).a, .int .i64 (c.p 5).b, .int .i64 (c.p 5).s, .int .i64 (c.p 5).n, .slice (c.p 5).ia (c.p 5).items.length (c.p 5).cap]] W (NumPost W ((c.p 5).nums 5))) := fun W hW =>
  numbers_part 5 (by omega) (c.p 5) h5 W ((hI 5 (by omega)).ext hW)
 obtain ⟨Y, hY⟩ : ∃ Y, Y = c.byYears := ⟨_, rfl⟩
 obtain ⟨ns, hns⟩ : ∃ ns, ns = (c.p 5).nums 5 := ⟨_, rfl⟩
 have HS : Hid (c.statedB = (!Y || decide (ns.length < 2))) := by
  show _ = _; unfold CronV.statedB; rw [h0, h1, h2, ← hY, ← hns]; simp
 generalize hR : c.statedB = R at *
 rw [← hY] at HYC
 rw [← hns] at HNC
 have hl : ns.length ≤ 30000 := by rw [hns]; exact nums_len h5
 clear hY hns hR h5
 have HC5 : Hid (∀ W, Ext (w.alloc (.cells c.cells 27)) W → W.cell? ⟨w.heap.size, 30, none⟩ = some (.int .i64 (c.p 5).k) ∧ W.cell? ⟨w.heap.size, 31, none⟩ = some (.int .i64 (c.p 5).a) ∧ W.cell? ⟨w.heap.size, 32, none⟩ = some (.int .i64 (c.p 5).b) ∧ W.cell? ⟨w.heap.size, 33, none⟩ = some (.int .i64 (c.p 5).s) ∧ W.cell? ⟨w.heap.size, 34, none⟩ = some (.int .i64 (c.p 5).n) ∧ W.cell? ⟨w.heap.size, 35, none⟩ = some (.slice (c.p 5).ia (c.p 5).items.length (c.p 5).cap)) := fun W hW => by
  have hD := hC.ext hW
  exact ⟨hD.k 5 (by omega), hD.a 5 (by omega), hD.b 5 (by omega), hD.s 5 (by omega), hD.n 5 (by omega), hD.it 5 (by omega)⟩
 clear hC hI
 generalize (c.p 3).k = k3 at *
 generalize (c.p 3).a = a3 at *
 generalize c.p 5 = p5 at *
 obtain ⟨q0, q1, q2, q3, q4, q5, q6, q7⟩ := p5
 obtain ⟨L8, hL8⟩ : ∃ L8, L8 = q7.length := ⟨_, rfl⟩
 simp only at d0 d2 HNC HC5 h0 h1 h2
 rw [← hL8] at HNC HC5
 clear hL8
 go_enter Tryz.func29, Tryz.ntmps29
 go_wp2_with fail
 go_at_call 27
 refine (HYC.out _).mono ?_
 rintro e w4 ⟨rfl, x4⟩
 obtain ⟨f0, f1, f2, f3, f4, f5⟩ := HC5.out _ x4
 have X4 := Lib.hid (HX.out.trans x4)
 clear x4 d0 d2 e0 e1 hcw h0 h1 h2
 rcases Y
 ·go_wp2_with fail
  go_ret
  exact ⟨ret_bool (by rw [HS.out]; rfl), X4.out⟩
 ·go_wp2_with fail
  go_at_call 42
  refine (HNC.out _ X4.out).mono ?_
  rintro e w7 ⟨v7, rfl, hI7, x7⟩
  obtain ⟨al, cl, hal⟩ := own_any hI7
  obtain ⟨ml, hml⟩ : ∃ ml, ml = ns.length := ⟨_, rfl⟩
  rw [← hml] at hal HS hl
  subst hal
  clear hml hI7
  go_wp2_with fail
  go_ret
  exact ⟨ret_bool (by rw [HS.out]; simp; omega), X4.out.trans x7⟩
set_option maxHeartbeats 6400000 in
set_option maxRecDepth 1000000 in
theorem stated7 (c : CronV) (h5 : (c.p 5).rightB 5 = true) (w : World) (hI : CronItems w c) (h0 : ((c.p 5).k == 13) = false) (h1 : ((c.p 3).k == 10) = false) :
 Calls Tryz.prog 29 #[.agg c.cells] w fun e w' => e = .returned (.bool c.statedB) ∧ Ext w w' := by
 have hC := cron_alloc w c
 have HX : Hid (Ext w (w.alloc (.cells c.cells 27))) := Ext.alloc _ _
 have d0 := hC.k 5 (by omega)
 have d2 := hC.b 5 (by omega)
 have e0 := hC.k 3 (by omega)
 have e1 := hC.a 3 (by omega)
 have hcw := hC.whole
 have HYC : Hid (∀ W, Calls Tryz.prog 27 #[.agg c.cells] W fun e w' => e = .returned (.bool c.byYears) ∧ Ext W w') := fun W => by_years c W
 have HNC : Hid (∀ W, Ext w W → Calls Tryz.prog 42 #[.int .i64 5, .agg #[.int .i64 (c.p 5).k, .int .i64 (c.p 5).a, .int .i64 (c.p 5).b, .int .i64 (c.p 5).s, .int .i64 (c.p 5).n, .slice (c.p 5).ia (c.p 5).items.length (c.p 5).cap]] W (NumPost W ((c.p 5).nums 5))) := fun W hW =>
  numbers_part 5 (by omega) (c.p 5) h5 W ((hI 5 (by omega)).ext hW)
 obtain ⟨Y, hY⟩ : ∃ Y, Y = c.byYears := ⟨_, rfl⟩
 obtain ⟨ns, hns⟩ : ∃ ns, ns = (c.p 5).nums 5 := ⟨_, rfl⟩
 have HS : Hid (c.statedB = (!Y || decide (ns.length < 2))) := by
  show _ = _; unfold CronV.statedB; rw [h0, h1, ← hY, ← hns]; simp
 generalize hR : c.statedB = R at *
 rw [← hY] at HYC
 rw [← hns] at HNC
 have hl : ns.length ≤ 30000 := by rw [hns]; exact nums_len h5
 clear hY hns hR h5
 have HC5 : Hid (∀ W, Ext (w.alloc (.cells c.cells 27)) W → W.cell? ⟨w.heap.size, 30, none⟩ = some (.int .i64 (c.p 5).k) ∧ W.cell? ⟨w.heap.size, 31, none⟩ = some (.int .i64 (c.p 5).a) ∧ W.cell? ⟨w.heap.size, 32, none⟩ = some (.int .i64 (c.p 5).b) ∧ W.cell? ⟨w.heap.size, 33, none⟩ = some (.int .i64 (c.p 5).s) ∧ W.cell? ⟨w.heap.size, 34, none⟩ = some (.int .i64 (c.p 5).n) ∧ W.cell? ⟨w.heap.size, 35, none⟩ = some (.slice (c.p 5).ia (c.p 5).items.length (c.p 5).cap)) := fun W hW => by
  have hD := hC.ext hW
  exact ⟨hD.k 5 (by omega), hD.a 5 (by omega), hD.b 5 (by omega), hD.s 5 (by omega), hD.n 5 (by omega), hD.it 5 (by omega)⟩
 clear hC hI
 generalize (c.p 3).k = k3 at *
 generalize (c.p 3).a = a3 at *
 generalize c.p 5 = p5 at *
 obtain ⟨q0, q1, q2, q3, q4, q5, q6, q7⟩ := p5
 obtain ⟨L8, hL8⟩ : ∃ L8, L8 = q7.length := ⟨_, rfl⟩
 simp only at d0 d2 HNC HC5 h0 h1
 rw [← hL8] at HNC HC5
 clear hL8
 go_enter Tryz.func29, Tryz.ntmps29
 go_wp2_with fail
 go_at_call 27
 refine (HYC.out _).mono ?_
 rintro e w4 ⟨rfl, x4⟩
 obtain ⟨f0, f1, f2, f3, f4, f5⟩ := HC5.out _ x4
 have X4 := Lib.hid (HX.out.trans x4)
 clear x4 d0 d2 e0 e1 hcw h0 h1
 rcases Y
 ·go_wp2_with fail
  go_ret
  exact ⟨ret_bool (by rw [HS.out]; rfl), X4.out⟩
 ·go_wp2_with fail
  go_at_call 42
  refine (HNC.out _ X4.out).mono ?_
  rintro e w7 ⟨v7, rfl, hI7, x7⟩
  obtain ⟨al, cl, hal⟩ := own_any hI7
  obtain ⟨ml, hml⟩ : ∃ ml, ml = ns.length := ⟨_, rfl⟩
  rw [← hml] at hal HS hl
  subst hal
  clear hml hI7
  go_wp2_with fail
  go_ret
  exact ⟨ret_bool (by rw [HS.out]; simp; omega), X4.out.trans x7⟩
theorem stated_cron (c : CronV) (h5 : (c.p 5).rightB 5 = true) (w : World) (hI : CronItems w c) :
 Calls Tryz.prog 29 #[.agg c.cells] w fun e w' => e = .returned (.bool c.statedB) ∧ Ext w w' := by
 rcases h1 : ((c.p 5).k == 13)
 ·rcases h3 : ((c.p 3).k == 10)
  ·exact stated7 c h5 w hI h1 h3
  ·rcases h4 : ((c.p 3).a == 2)
   ·exact stated6 c h5 w hI h1 h3 h4
   ·exact stated3 c h5 w hI h1 h3 h4
 ·rcases h2 : ((c.p 5).b == 5)
  ·rcases h3 : ((c.p 3).k == 10)
   ·exact stated5 c h5 w hI h1 h2 h3
   ·rcases h4 : ((c.p 3).a == 2)
    ·exact stated4 c h5 w hI h1 h2 h3 h4
    ·exact stated2 c h5 w hI h1 h2 h3 h4
  ·exact stated1 c h5 w hI h1 h2
end Go.Proofs.YtmaffdhcmdhjfaaGreatDoor
namespace Go.Proofs.YtmaffdhcmdhjfaaGreatDoor
open Go.RowKit Go.Lib
attribute [local go_sem ↓] execOp_loadCron
structure PartAt (W : World) (B : Nat) (p : PartV) : Prop where
 k : W.cell? ⟨B, 0, none⟩ = some (.int .i64 p.k)
 a : W.cell? ⟨B, 1, none⟩ = some (.int .i64 p.a)
 b : W.cell? ⟨B, 2, none⟩ = some (.int .i64 p.b)
 s : W.cell? ⟨B, 3, none⟩ = some (.int .i64 p.s)
 n : W.cell? ⟨B, 4, none⟩ = some (.int .i64 p.n)
 it : W.cell? ⟨B, 5, none⟩ = some (.slice p.ia p.items.length p.cap)
theorem PartAt.ext {W W' : World} {B : Nat} {p : PartV} (h : PartAt W B p) (x : Ext W W') : PartAt W' B p :=
 ⟨x.cell h.k, x.cell h.a, x.cell h.b, x.cell h.s, x.cell h.n, x.cell h.it⟩
def badT (l3 : List Int) (k3 a3 k5 b5 : Int) (n5 : Nat) (m y : Bool) : Bool :=
 over28 l3 || (((k3 == 9) && decide (27 < a3)) || (((k3 == 10) && decide (28 < a3)) || ((((k5 == 13) && (b5 == 5)) && (m || y)) || (decide (1 < n5) && m))))
theorem takenS_eq (c : CronV) : c.takenS = (!badT (c.numsAt 3) (c.p 3).k (c.p 3).a (c.p 5).k (c.p 5).b (c.numsAt 5).length (toldK (c.p 4).k) (!c.six && toldK (c.p 6).k) &&
 (decide (0 < (c.numsAt 2).length) || (!toldK (c.p 3).k && !toldK (c.p 5).k && !toldK (c.p 4).k && !(!c.six && toldK (c.p 6).k)))) := by
 unfold CronV.takenS badT
 have e : ∀ x y : Int, (x == y) = decide (x = y) := fun _ _ => rfl
 rw [e, e, e, e]
 generalize over28 (c.numsAt 3) = x1
 generalize decide ((c.p 3).k = 9) = x2
 generalize decide (27 < (c.p 3).a) = x3
 generalize decide ((c.p 3).k = 10) = x4
 generalize decide (28 < (c.p 3).a) = x5
 generalize (decide ((c.p 5).k = 13) && decide ((c.p 5).b = 5)) = x6
 generalize (toldK (c.p 4).k || !c.six && toldK (c.p 6).k) = x7
 generalize (decide (1 < (c.numsAt 5).length) && toldK (c.p 4).k) = x8
 generalize (decide (0 < (c.numsAt 2).length) || (!toldK (c.p 3).k && !toldK (c.p 5).k && !toldK (c.p 4).k && !(!c.six && toldK (c.p 6).k))) = x9
 cases x1 <;> cases x2 <;> cases x3 <;> cases x4 <;> cases x5 <;> cases x6 <;> cases x7 <;> cases x8 <;> rfl
set_option maxHeartbeats 12800000 in
set_option maxRecDepth 1000000 in
theorem taken_spec (c : CronV) (hO : NumsOk c) (hA7 : c.allB 7 = true) (w : World) (hI : CronItems w c) :
 Calls Tryz.prog 31 #[.agg c.cells] w fun e w' => e = .returned (.bool c.takenS) ∧ Ext w w' := by
 have HC : Hid (CronAt (w.alloc (.cells c.cells 27)) w.heap.size c) := cron_alloc w c
 have HX : Hid (Ext w (w.alloc (.cells c.cells 27))) := Ext.alloc _ _
 have hcw := HC.out.whole
 have HNUM : Hid (∀ W, Ext w W → Calls Tryz.prog 19 #[.agg c.cells] W (RowsPost W (c.nums 7))) := fun W hW => numbers_cron c hO W (hI.ext hW)
 have HTOLD : Hid (∀ (p : PartV) W, Calls Tryz.prog 36 #[.agg #[.int .i64 p.k, .int .i64 p.a, .int .i64 p.b, .int .i64 p.s, .int .i64 p.n, .slice p.ia p.items.length p.cap]] W fun e w' => e = .returned (.bool (toldK p.k)) ∧ Ext W w') := fun p W => told_part p W
 have HL : Hid (∀ i, i < 7 → (c.numsAt i).length ≤ 100000000) := fun i hi => numsAt_len hA7 i hi
 have HR := Lib.hid (takenS_eq c)
 generalize hR : c.takenS = R at *
 clear hI hO hA7 hR
 go_enter Tryz.func31, Tryz.ntmps31
 go_wp2_with fail
 go_at_call 19
 refine (HNUM.out _ HX.out).mono ?_
 rintro e w1 ⟨v1, rfl, hI1, x1⟩
 have C1 := Lib.hid (HC.out.ext x1)
 have X1 := Lib.hid (HX.out.trans x1)
 obtain ⟨g, cap, hv, hrow⟩ := hI1.form (by simp [CronV.nums])
 have h7 : (c.nums 7).length = 7 := by simp [CronV.nums]
 rw [h7] at hv
 subst hv
 have HROW : Hid (∀ i, i < 7 → ∃ ax cx, w1.cell? ⟨g, i, none⟩ = some (.slice ax (c.numsAt i).length cx) ∧ (0 < (c.numsAt i).length → ∃ gx, ax = some ⟨gx, 0, none⟩ ∧ ∀ (j : Nat) (z : Int), (c.numsAt i)[j]? = some z → w1.cell? ⟨gx, j, none⟩ = some (.int .i64 z))) :=
  fun i hi => hrow i _ (by simp [CronV.nums, hi])
 clear hrow h7 hI1 x1 hcw
 have d30 := C1.out.k 3 (by omega)
 have d31 := C1.out.a 3 (by omega)
 have d32 := C1.out.b 3 (by omega)
 have d33 := C1.out.s 3 (by omega)
 have d34 := C1.out.n 3 (by omega)
 have d35 := C1.out.it 3 (by omega)
 have d50 := C1.out.k 5 (by omega)
 have d51 := C1.out.a 5 (by omega)
 have d52 := C1.out.b 5 (by omega)
 have d53 := C1.out.s 5 (by omega)
 have d54 := C1.out.n 5 (by omega)
 have d55 := C1.out.it 5 (by omega)
 have d60 := C1.out.six
 have hB : w.heap.size < w1.heap.size := block_lt C1.out.blk
 have hB2 : w.heap.size < w1.heap.size + 1 := by omega
 go_upto_region 2 with fail
 go_cut [4, 5] (fun v4 v5 W => ∃ B4 B5, v4 = .pointer (some ⟨B4, 0, none⟩) ∧ v5 = .pointer (some ⟨B5, 0, none⟩) ∧ Hid (PartAt W B4 (c.p 3)) ∧ Hid (PartAt W B5 (c.p 5)) ∧ Hid (Ext w1 W))
 case first =>
  go_region
  all_goals (
   go_wp2_with fail
   go_meet
   exact ⟨_, _, rfl, rfl, ⟨by simp [go_sem], by simp [go_sem], by simp [go_sem], by simp [go_sem], by simp [go_sem], by simp [go_sem]⟩, ⟨by simp [go_sem], by simp [go_sem], by simp [go_sem], by simp [go_sem], by simp [go_sem], by simp [go_sem]⟩, ((Ext.alloc _ _).trans (Ext.alloc _ _)).trans (Ext.drew _)⟩)
 case rest =>
  obtain ⟨B4, B5, rfl, rfl, HP4, HP5, HE⟩ := hcut
  clear d30 d31 d32 d33 d34 d35 d50 d51 d52 d53 d54 d55 d60 hB hB2
  obtain ⟨wd, rfl⟩ : ∃ wd : World, wd = wc := ⟨_, rfl⟩
  have C2 : Hid (CronAt wd w.heap.size c) := C1.out.ext HE.out
  have X2 : Hid (Ext w wd) := X1.out.trans HE.out
  obtain ⟨Y, hY⟩ : ∃ Y, Y = (!c.six && toldK (c.p 6).k) := ⟨_, rfl⟩
  obtain ⟨M, hM⟩ : ∃ M, M = toldK (c.p 4).k := ⟨_, rfl⟩
  rw [← hY, ← hM] at HR
  have HY := Lib.hid hY
  have HM := Lib.hid hM
  clear hY hM
  go_upto_region 3 with fail
  go_cut [6] (fun v6 W => v6 = .bool Y ∧ Hid (Ext wd W))
  case first =>
   have d42 := C2.out.six
   rcases hs : c.six
   ·have HY2 : Hid (Y = toldK (c.p 6).k) := by show _ = _; rw [HY.out, hs]; rfl
    rw [hs] at d42
    have d0 := C2.out.k 6 (by omega)
    have d1 := C2.out.a 6 (by omega)
    have d2 := C2.out.b 6 (by omega)
    have d3 := C2.out.s 6 (by omega)
    have d4 := C2.out.n 6 (by omega)
    have d5 := C2.out.it 6 (by omega)
    clear hs
    go_wp2_with fail
    go_at_call 36
    refine (HTOLD.out (c.p 6) _).mono ?_
    rintro e w4 ⟨rfl, x4⟩
    rw [← HY2.out]
    go_wp2_with fail
    go_meet
    exact ⟨rfl, x4⟩
   ·have HY2 : Hid (Y = false) := by show _ = _; rw [HY.out, hs]; rfl
    rw [hs] at d42
    clear hs
    go_wp2_with fail
    go_meet
    exact ⟨by rw [HY2.out], Ext.refl _⟩
  case rest =>
   obtain ⟨rfl, HE3⟩ := hcut
   obtain ⟨we, rfl⟩ : ∃ we : World, we = wc := ⟨_, rfl⟩
   have C3 : Hid (CronAt we w.heap.size c) := C2.out.ext HE3.out
   have d0 := C3.out.k 4 (by omega)
   have d1 := C3.out.a 4 (by omega)
   have d2 := C3.out.b 4 (by omega)
   have d3 := C3.out.s 4 (by omega)
   have d4 := C3.out.n 4 (by omega)
   have d5 := C3.out.it 4 (by omega)
   go_wp2_with fail
   go_at_call 36
   refine (HTOLD.out (c.p 4) _).mono ?_
   rintro e w4 ⟨rfl, x4⟩
   rw [← HM.out]
   have XE : Hid (Ext wd w4) := HE3.out.trans x4
   have X4 : Hid (Ext w w4) := X2.out.trans XE.out
   have HR4 : Hid (Ext w1 w4) := HE.out.trans XE.out
   have P4 : Hid (PartAt w4 B4 (c.p 3)) := HP4.out.ext XE.out
   have P5 : Hid (PartAt w4 B5 (c.p 5)) := HP5.out.ext XE.out
   clear d0 d1 d2 d3 d4 d5 x4
   obtain ⟨ax3, cx3, hr3, he3⟩ := HROW.out 3 (by omega)
   obtain ⟨ax5, cx5, hr5, _⟩ := HROW.out 5 (by omega)
   obtain ⟨ax2, cx2, hr2, _⟩ := HROW.out 2 (by omega)
   have r3 := HR4.out.cell hr3
   have r5 := Lib.hid (HR4.out.cell hr5)
   have r2 := Lib.hid (HR4.out.cell hr2)
   have hl3 := HL.out 3 (by omega)
   have hl5 := HL.out 5 (by omega)
   have hl2 := HL.out 2 (by omega)
   obtain ⟨l3, hl3e⟩ : ∃ l, l = c.numsAt 3 := ⟨_, rfl⟩
   rw [← hl3e] at r3 he3 hl3 HR
   obtain ⟨n5, hn5⟩ : ∃ n, n = (c.numsAt 5).length := ⟨_, rfl⟩
   rw [← hn5] at r5 hl5 HR
   obtain ⟨n2, hn2⟩ : ∃ n, n = (c.numsAt 2).length := ⟨_, rfl⟩
   rw [← hn2] at r2 hl2 HR
   obtain ⟨n3, hn3⟩ : ∃ n, n = l3.length := ⟨_, rfl⟩
   have HN3 := Lib.hid hn3
   rw [← hn3] at r3 hl3 he3
   have HEL := Lib.hid he3
   clear hr3 hr5 hr2 he3 hn3 hn2 hn5 hl3e
   go_wp2_with fail
   go_loop [8] (fun i => ∃ j : Nat, j ≤ n3 ∧ i = .int .i64 j ∧ Hid (over28 (l3.take j) = false)) (fun i => n3 - (RowKit.intOf i).toNat)
   case atStart => exact ⟨0, Nat.zero_le _, rfl, rfl⟩
   case round =>
    obtain ⟨j, hj, rfl, HO28⟩ := hrel
    by_cases hlt : j < n3
    ·obtain ⟨z, hz⟩ : ∃ z, l3[j]? = some z := ⟨_, List.getElem?_eq_getElem (by rw [← HN3.out]; exact hlt)⟩
     obtain ⟨gx, rfl, hel⟩ := HEL.out (by omega)
     have cz := HR4.out.cell (hel j z hz)
     by_cases h28 : 28 < z
     ·have HB : Hid (R = false) := by
       show _ = _
       have : over28 l3 = true := over28_iff.mpr ⟨z, List.mem_of_getElem? hz, h28⟩
       rw [HR.out]; unfold badT; rw [this]; rfl
      clear hel hz
      go_wp2_with fail
      go_ret
      exact ⟨ret_bool HB.out.symm, X4.out⟩
     ·have HN : Hid (over28 (l3.take (j + 1)) = false) := by
       show _ = _
       obtain ⟨hj2, hz2⟩ := List.getElem?_eq_some_iff.mp hz
       have h0 := HO28.out
       unfold over28 at h0 ⊢
       rw [List.take_succ_eq_append_getElem hj2, List.any_append, h0, hz2]
       simp; omega
      clear hel hz
      go_wp2_with fail
      exact ⟨⟨j + 1, by omega, rfl, HN.out⟩, by simp only [RowKit.intOf]; omega⟩
    ·have HO3 : Hid (over28 l3 = false) := by
      show _ = _
      have h0 := HO28.out
      rw [List.take_of_length_le (by rw [← HN3.out]; omega)] at h0
      exact h0
     obtain ⟨E, hE⟩ : ∃ E, E = (((( c.p 3).k == 9) && decide (27 < (c.p 3).a)) || ((((c.p 3).k == 10) && decide (28 < (c.p 3).a)) || (((((c.p 5).k == 13) && ((c.p 5).b == 5)) && (M || Y)) || (decide (1 < n5) && M)))) := ⟨_, rfl⟩
     have HRE : Hid (R = (!E && (decide (0 < n2) || (!toldK (c.p 3).k && !toldK (c.p 5).k && !M && !Y)))) := by
      show _ = _
      rw [HR.out]; unfold badT; rw [HO3.out, hE]; rfl
     have HEQ := Lib.hid hE
     clear hE HR
     go_upto_region 10 with fail
     go_cut [88] (fun v W => v = .bool E ∧ Hid (Ext w4 W))
     case first =>
      have e0 := P4.out.k
      have e1 := P4.out.a
      have e2 := P5.out.k
      have e3 := P5.out.b
      have r5 := r5.out
      clear HRE
      generalize (c.p 3).k = k3 at *
      generalize (c.p 3).a = a3 at *
      generalize (c.p 5).k = k5 at *
      generalize (c.p 5).b = b5 at *
      rcases hk9 : (k3 == 9)
      ·rcases hk10 : (k3 == 10)
       ·rcases hq13 : (k5 == 13)
        ·by_cases hq5 : 1 < n5
         ·have hn5 : decide (1 < n5) = true := by simp [hq5]
          rcases M
          ·go_wp2_with fail
           go_meet
           exact ⟨by rw [HEQ.out, hk9, hk10, hq13, hn5]; rfl, Ext.refl _⟩
          ·go_wp2_with fail
           go_meet
           exact ⟨by rw [HEQ.out, hk9, hk10, hq13, hn5]; rfl, Ext.refl _⟩
         ·have hn5 : decide (1 < n5) = false := by simp [hq5]
          go_wp2_with fail
          go_meet
          exact ⟨by rw [HEQ.out, hk9, hk10, hq13, hn5]; rfl, Ext.refl _⟩
        ·rcases hb5 : (b5 == 5)
         ·by_cases hq5 : 1 < n5
          ·have hn5 : decide (1 < n5) = true := by simp [hq5]
           rcases M
           ·go_wp2_with fail
            go_meet
            exact ⟨by rw [HEQ.out, hk9, hk10, hq13, hb5, hn5]; rfl, Ext.refl _⟩
           ·go_wp2_with fail
            go_meet
            exact ⟨by rw [HEQ.out, hk9, hk10, hq13, hb5, hn5]; rfl, Ext.refl _⟩
          ·have hn5 : decide (1 < n5) = false := by simp [hq5]
           go_wp2_with fail
           go_meet
           exact ⟨by rw [HEQ.out, hk9, hk10, hq13, hb5, hn5]; rfl, Ext.refl _⟩
         ·rcases M
          ·rcases Y
           ·by_cases hq5 : 1 < n5
            ·have hn5 : decide (1 < n5) = true := by simp [hq5]
             go_wp2_with fail
             go_meet
             exact ⟨by rw [HEQ.out, hk9, hk10, hq13, hb5, hn5]; rfl, Ext.refl _⟩
            ·have hn5 : decide (1 < n5) = false := by simp [hq5]
             go_wp2_with fail
             go_meet
             exact ⟨by rw [HEQ.out, hk9, hk10, hq13, hb5, hn5]; rfl, Ext.refl _⟩
           ·go_wp2_with fail
            go_meet
            exact ⟨by rw [HEQ.out, hk9, hk10, hq13, hb5]; rfl, Ext.refl _⟩
          ·go_wp2_with fail
           go_meet
           exact ⟨by rw [HEQ.out, hk9, hk10, hq13, hb5]; rfl, Ext.refl _⟩
       ·rcases ha28 : decide (28 < a3)
        ·rcases hq13 : (k5 == 13)
         ·by_cases hq5 : 1 < n5
          ·have hn5 : decide (1 < n5) = true := by simp [hq5]
           rcases M
           ·go_wp2_with fail
            go_meet
            exact ⟨by rw [HEQ.out, hk9, hk10, ha28, hq13, hn5]; rfl, Ext.refl _⟩
           ·go_wp2_with fail
            go_meet
            exact ⟨by rw [HEQ.out, hk9, hk10, ha28, hq13, hn5]; rfl, Ext.refl _⟩
          ·have hn5 : decide (1 < n5) = false := by simp [hq5]
           go_wp2_with fail
           go_meet
           exact ⟨by rw [HEQ.out, hk9, hk10, ha28, hq13, hn5]; rfl, Ext.refl _⟩
         ·rcases hb5 : (b5 == 5)
          ·by_cases hq5 : 1 < n5
           ·have hn5 : decide (1 < n5) = true := by simp [hq5]
            rcases M
            ·go_wp2_with fail
             go_meet
             exact ⟨by rw [HEQ.out, hk9, hk10, ha28, hq13, hb5, hn5]; rfl, Ext.refl _⟩
            ·go_wp2_with fail
             go_meet
             exact ⟨by rw [HEQ.out, hk9, hk10, ha28, hq13, hb5, hn5]; rfl, Ext.refl _⟩
           ·have hn5 : decide (1 < n5) = false := by simp [hq5]
            go_wp2_with fail
            go_meet
            exact ⟨by rw [HEQ.out, hk9, hk10, ha28, hq13, hb5, hn5]; rfl, Ext.refl _⟩
          ·rcases M
           ·rcases Y
            ·by_cases hq5 : 1 < n5
             ·have hn5 : decide (1 < n5) = true := by simp [hq5]
              go_wp2_with fail
              go_meet
              exact ⟨by rw [HEQ.out, hk9, hk10, ha28, hq13, hb5, hn5]; rfl, Ext.refl _⟩
             ·have hn5 : decide (1 < n5) = false := by simp [hq5]
              go_wp2_with fail
              go_meet
              exact ⟨by rw [HEQ.out, hk9, hk10, ha28, hq13, hb5, hn5]; rfl, Ext.refl _⟩
            ·go_wp2_with fail
             go_meet
             exact ⟨by rw [HEQ.out, hk9, hk10, ha28, hq13, hb5]; rfl, Ext.refl _⟩
           ·go_wp2_with fail
            go_meet
            exact ⟨by rw [HEQ.out, hk9, hk10, ha28, hq13, hb5]; rfl, Ext.refl _⟩
        ·go_wp2_with fail
         go_meet
         exact ⟨by rw [HEQ.out, hk9, hk10, ha28]; rfl, Ext.refl _⟩
      ·rcases ha27 : decide (27 < a3)
       ·have hk10 : (k3 == 10) = false := by rw [beq_eq_false_iff_ne]; have := beq_iff_eq.mp hk9; omega
        rcases hq13 : (k5 == 13)
        ·by_cases hq5 : 1 < n5
         ·have hn5 : decide (1 < n5) = true := by simp [hq5]
          rcases M
          ·go_wp2_with fail
           go_meet
           exact ⟨by rw [HEQ.out, hk9, ha27, hk10, hq13, hn5]; rfl, Ext.refl _⟩
          ·go_wp2_with fail
           go_meet
           exact ⟨by rw [HEQ.out, hk9, ha27, hk10, hq13, hn5]; rfl, Ext.refl _⟩
         ·have hn5 : decide (1 < n5) = false := by simp [hq5]
          go_wp2_with fail
          go_meet
          exact ⟨by rw [HEQ.out, hk9, ha27, hk10, hq13, hn5]; rfl, Ext.refl _⟩
        ·rcases hb5 : (b5 == 5)
         ·by_cases hq5 : 1 < n5
          ·have hn5 : decide (1 < n5) = true := by simp [hq5]
           rcases M
           ·go_wp2_with fail
            go_meet
            exact ⟨by rw [HEQ.out, hk9, ha27, hk10, hq13, hb5, hn5]; rfl, Ext.refl _⟩
           ·go_wp2_with fail
            go_meet
            exact ⟨by rw [HEQ.out, hk9, ha27, hk10, hq13, hb5, hn5]; rfl, Ext.refl _⟩
          ·have hn5 : decide (1 < n5) = false := by simp [hq5]
           go_wp2_with fail
           go_meet
           exact ⟨by rw [HEQ.out, hk9, ha27, hk10, hq13, hb5, hn5]; rfl, Ext.refl _⟩
         ·rcases M
          ·rcases Y
           ·by_cases hq5 : 1 < n5
            ·have hn5 : decide (1 < n5) = true := by simp [hq5]
             go_wp2_with fail
             go_meet
             exact ⟨by rw [HEQ.out, hk9, ha27, hk10, hq13, hb5, hn5]; rfl, Ext.refl _⟩
            ·have hn5 : decide (1 < n5) = false := by simp [hq5]
             go_wp2_with fail
             go_meet
             exact ⟨by rw [HEQ.out, hk9, ha27, hk10, hq13, hb5, hn5]; rfl, Ext.refl _⟩
           ·go_wp2_with fail
            go_meet
            exact ⟨by rw [HEQ.out, hk9, ha27, hk10, hq13, hb5]; rfl, Ext.refl _⟩
          ·go_wp2_with fail
           go_meet
           exact ⟨by rw [HEQ.out, hk9, ha27, hk10, hq13, hb5]; rfl, Ext.refl _⟩
       ·go_wp2_with fail
        go_meet
        exact ⟨by rw [HEQ.out, hk9, ha27]; rfl, Ext.refl _⟩
     case rest =>
      obtain ⟨rfl, HE5⟩ := hcut
      have XW : Hid (Ext w wc) := X4.out.trans HE5.out
      have Q4 : Hid (PartAt wc B4 (c.p 3)) := P4.out.ext HE5.out
      have Q5 : Hid (PartAt wc B5 (c.p 5)) := P5.out.ext HE5.out
      have r2 := HE5.out.cell r2.out
      obtain ⟨wf, rfl⟩ : ∃ wf : World, wf = wc := ⟨_, rfl⟩
      rcases E
      ·by_cases h2 : 0 < n2
       ·have HB : Hid (R = true) := by show _ = _; rw [HRE.out]; simp [h2]
        go_wp2_with fail
        go_ret
        exact ⟨ret_bool HB.out.symm, XW.out⟩
       ·have HB : Hid (R = (!toldK (c.p 3).k && !toldK (c.p 5).k && !M && !Y)) := by show _ = _; rw [HRE.out]; simp [h2]
        have e0 := Q4.out.k
        have e1 := Q4.out.a
        have e2 := Q4.out.b
        have e3 := Q4.out.s
        have e4 := Q4.out.n
        have e5 := Q4.out.it
        go_wp2_with fail
        go_at_call 36
        refine (HTOLD.out (c.p 3) _).mono ?_
        rintro e w6 ⟨rfl, x6⟩
        have XW6 : Hid (Ext w w6) := XW.out.trans x6
        have Q6 : Hid (PartAt w6 B5 (c.p 5)) := Q5.out.ext x6
        clear e0 e1 e2 e3 e4 e5 r2 x6
        rcases ht3 : toldK (c.p 3).k
        ·have HB2 : Hid (R = (!toldK (c.p 5).k && !M && !Y)) := by show _ = _; rw [HB.out, ht3]; rfl
         clear ht3
         have e0 := Q6.out.k
         have e1 := Q6.out.a
         have e2 := Q6.out.b
         have e3 := Q6.out.s
         have e4 := Q6.out.n
         have e5 := Q6.out.it
         go_wp2_with fail
         go_at_call 36
         refine (HTOLD.out (c.p 5) _).mono ?_
         rintro e w7 ⟨rfl, x7⟩
         have XW7 : Hid (Ext w w7) := XW6.out.trans x7
         clear e0 e1 e2 e3 e4 e5 x7
         rcases ht5 : toldK (c.p 5).k
         ·rcases M
          ·rcases Y
           all_goals (
            go_wp2_with fail
            go_ret
            exact ⟨ret_bool (by rw [HB2.out, ht5]; rfl), XW7.out⟩)
          ·go_wp2_with fail
           go_ret
           exact ⟨ret_bool (by rw [HB2.out, ht5]; rfl), XW7.out⟩
         ·go_wp2_with fail
          go_ret
          exact ⟨ret_bool (by rw [HB2.out, ht5]; rfl), XW7.out⟩
        ·have HB2 : Hid (R = false) := by show _ = _; rw [HB.out, ht3]; rfl
         clear ht3
         go_wp2_with fail
         go_ret
         exact ⟨ret_bool HB2.out.symm, XW6.out⟩
      ·have HB : Hid (R = false) := by show _ = _; rw [HRE.out]; rfl
       go_wp2_with fail
       go_ret
       exact ⟨ret_bool HB.out.symm, XW.out⟩
end Go.Proofs.YtmaffdhcmdhjfaaGreatDoor
namespace Go.Proofs.YtmaffdhcmdhjfaaGreatDoor
open Go.RowKit Go.Lib
attribute [local go_sem ↓] execOp_loadCron
def askedB (c : CronV) (n prev : Int) : Bool :=
 c.rightB && (c.takenS && (c.statedB && (decide (-1440 ≤ n) && (decide (n ≤ 1440) && (decide (31536000000000000 ≤ prev) && decide (prev ≤ 7258118399999999999))))))
structure AskedIs (c : CronV) (n prev : Int) : Prop where
 right : RightIs c
 taken : c.takenS = true
 stated : c.statedB = true
 n0 : -1440 ≤ n
 n1 : n ≤ 1440
 p0 : 31536000000000000 ≤ prev
 p1 : prev ≤ 7258118399999999999
theorem asked_is {c : CronV} {n prev : Int} (h : askedB c n prev = true) : AskedIs c n prev := by
 unfold askedB at h
 simp only [Bool.and_eq_true, decide_eq_true_eq] at h
 exact ⟨right_is h.1, h.2.1, h.2.2.1, h.2.2.2.1, h.2.2.2.2.1, h.2.2.2.2.2.1, h.2.2.2.2.2.2⟩
set_option maxHeartbeats 6400000 in
set_option maxRecDepth 1000000 in
theorem asked_any (c : CronV) (hO : CronIn c) (n prev : Int) (w : World) (hI : CronItems w c) (hE : Env w) :
 Calls Tryz.prog 22 #[.agg c.cells, .int .i64 n, .int .i64 prev] w fun e w' => e = .returned (.bool (askedB c n prev)) ∧ Ext w w' := by
 have HC : Hid (CronAt (w.alloc (.cells c.cells 27)) w.heap.size c) := cron_alloc w c
 have HX : Hid (Ext w (w.alloc (.cells c.cells 27))) := Ext.alloc _ _
 have hcw := HC.out.whole
 have HI := Lib.hid hI
 have HO := Lib.hid hO
 have HA : Hid (askedB c n prev = (c.rightB && (c.takenS && (c.statedB && (decide (-1440 ≤ n) && (decide (n ≤ 1440) && (decide (31536000000000000 ≤ prev) && decide (prev ≤ 7258118399999999999)))))))) := rfl
 generalize hR : askedB c n prev = R at *
 clear hR hI hO
 go_enter Tryz.func22, Tryz.ntmps22
 go_wp2_with fail
 go_at_call 13
 refine (right_cron c HO.out _ (HI.out.ext HX.out) (hE.ext HX.out)).mono ?_
 rintro e w1 ⟨rfl, x1⟩
 have C1 := Lib.hid (HC.out.ext x1)
 have X1 := Lib.hid (HX.out.trans x1)
 clear x1 hcw
 rcases hr : c.rightB
 ·have HR : Hid (R = false) := by show _ = _; rw [HA.out, hr]; rfl
  clear hr
  go_wp2_with fail
  go_ret
  exact ⟨ret_bool HR.out.symm, X1.out⟩
 ·have HRI := Lib.hid (right_is hr)
  have HA1 : Hid (R = (c.takenS && (c.statedB && (decide (-1440 ≤ n) && (decide (n ≤ 1440) && (decide (31536000000000000 ≤ prev) && decide (prev ≤ 7258118399999999999))))))) := by
   show _ = _; rw [HA.out, hr]; rfl
  have hcw := C1.out.whole
  clear hr
  go_wp2_with fail
  go_at_call 31
  refine (taken_spec c ⟨fun j hj => all_right HRI.out.all j hj⟩ HRI.out.all _ (HI.out.ext X1.out)).mono ?_
  rintro e w2 ⟨rfl, x2⟩
  have C2 := Lib.hid (C1.out.ext x2)
  have X2 := Lib.hid (X1.out.trans x2)
  clear x2 hcw
  rcases ht : c.takenS
  ·have HR : Hid (R = false) := by show _ = _; rw [HA1.out, ht]; rfl
   clear ht
   go_wp2_with fail
   go_ret
   exact ⟨ret_bool HR.out.symm, X2.out⟩
  ·have HA2 : Hid (R = (c.statedB && (decide (-1440 ≤ n) && (decide (n ≤ 1440) && (decide (31536000000000000 ≤ prev) && decide (prev ≤ 7258118399999999999)))))) := by
    show _ = _; rw [HA1.out, ht]; rfl
   have hcw := C2.out.whole
   clear ht
   go_wp2_with fail
   go_at_call 29
   refine (stated_cron c (all_right HRI.out.all 5 (by decide)) _ (HI.out.ext X2.out)).mono ?_
   rintro e w3 ⟨rfl, x3⟩
   have X3 := Lib.hid (X2.out.trans x3)
   clear x3 hcw
   rcases hs : c.statedB
   ·have HR : Hid (R = false) := by show _ = _; rw [HA2.out, hs]; rfl
    clear hs
    go_wp2_with fail
    go_ret
    exact ⟨ret_bool HR.out.symm, X3.out⟩
   ·have HA3 : Hid (R = (decide (-1440 ≤ n) && (decide (n ≤ 1440) && (decide (31536000000000000 ≤ prev) && decide (prev ≤ 7258118399999999999))))) := by
     show _ = _; rw [HA2.out, hs]; rfl
    clear hs HA HA1 HA2
    rcases h0 : decide (-1440 ≤ n)
    ·have HR : Hid (R = false) := by show _ = _; rw [HA3.out, h0]; rfl
     go_wp2_with fail
     go_ret
     exact ⟨ret_bool HR.out.symm, X3.out⟩
    ·rcases h1 : decide (n ≤ 1440)
     ·have HR : Hid (R = false) := by show _ = _; rw [HA3.out, h0, h1]; rfl
      go_wp2_with fail
      go_ret
      exact ⟨ret_bool HR.out.symm, X3.out⟩
     ·rcases h2 : decide (31536000000000000 ≤ prev)
      ·have HR : Hid (R = false) := by show _ = _; rw [HA3.out, h0, h1, h2]; rfl
       go_wp2_with fail
       go_ret
       exact ⟨ret_bool HR.out.symm, X3.out⟩
      ·have HR : Hid (R = decide (prev ≤ 7258118399999999999)) := by show _ = _; rw [HA3.out, h0, h1, h2]; rfl
       rcases h3 : decide (prev ≤ 7258118399999999999)
       all_goals
        have HR2 := HR.out
        rw [h3] at HR2
        replace HR2 := Lib.hid HR2
        go_wp2_with fail
        go_ret
        exact ⟨ret_bool HR2.out.symm, X3.out⟩
end Go.Proofs.YtmaffdhcmdhjfaaGreatDoor
