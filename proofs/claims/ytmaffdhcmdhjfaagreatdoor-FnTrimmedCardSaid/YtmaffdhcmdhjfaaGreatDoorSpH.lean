/- spec.Special, Plain. -/
import Derived.Test.YtmaffdhcmdhjfaaGreatDoorSpG
namespace Go.Proofs.YtmaffdhcmdhjfaaGreatDoor
open Go.RowKit Go.Lib

theorem plain_any (k a b s n : Int) (it : Value) (w : World) :
    Calls Tryz.prog 41 #[.agg #[.int .i64 k, .int .i64 a, .int .i64 b, .int .i64 s, .int .i64 n, it]] w fun e w' => e = .returned (.bool (decide (k < 8))) ∧ Ext w w' := by
  go_enter Tryz.func41, Tryz.ntmps41
  go_wp2
  go_ret
  exact ⟨rfl, Ext.alloc _ _⟩

def PartV.dayN (p : PartV) : Int := if p.k = 8 then 1 else if p.k = 9 then -p.a else if p.k = 10 then 2 else if p.k = 11 then 3 else 0
def PartV.weekN (p : PartV) : Int := if p.k = 12 then -1 else if p.k = 13 then p.b else 0

set_option maxHeartbeats 3200000 in
set_option maxRecDepth 1000000 in
theorem special_cron (c : CronV) (h9 : (c.p 3).k = 9 → 1 ≤ (c.p 3).a ∧ (c.p 3).a ≤ 31) (w : World) :
    Calls Tryz.prog 16 #[.agg c.cells] w fun e w' => e = .returned (.tuple #[.int .i64 (c.p 3).dayN, .int .i64 (c.p 5).weekN]) ∧ Ext w w' := by
  have hC := cron_alloc w c
  have HX : Hid (Ext w (w.alloc (.cells c.cells 27))) := Ext.alloc _ _
  have d0 : (w.alloc (.cells c.cells 27)).cell? ⟨w.heap.size, 18, none⟩ = some (.int .i64 (c.p 3).k) := hC.k 3 (by omega)
  have d1 : (w.alloc (.cells c.cells 27)).cell? ⟨w.heap.size, 19, none⟩ = some (.int .i64 (c.p 3).a) := hC.a 3 (by omega)
  have e0 : (w.alloc (.cells c.cells 27)).cell? ⟨w.heap.size, 30, none⟩ = some (.int .i64 (c.p 5).k) := hC.k 5 (by omega)
  have e2 : (w.alloc (.cells c.cells 27)).cell? ⟨w.heap.size, 32, none⟩ = some (.int .i64 (c.p 5).b) := hC.b 5 (by omega)
  obtain ⟨x, hx⟩ : ∃ x, x = (c.p 3).dayN := ⟨_, rfl⟩
  obtain ⟨y, hy⟩ : ∃ y, y = (c.p 5).weekN := ⟨_, rfl⟩
  rw [← hx, ← hy]
  have HX3 := Lib.hid hx
  have HY5 := Lib.hid hy
  unfold PartV.dayN at HX3
  unfold PartV.weekN at HY5
  clear hx hy hC
  generalize (c.p 3).k = k3 at d0 HX3 h9
  generalize (c.p 3).a = a3 at d1 HX3 h9
  generalize (c.p 5).k = k5 at e0 HY5
  generalize (c.p 5).b = b5 at e2 HY5
  generalize hC : c.cells = C at d0 d1 e0 e2 HX
  clear hC
  have H9 := Lib.hid h9
  clear h9
  by_cases k8 : k3 = 8
  · subst k8
    by_cases k12 : k5 = 12
    · subst k12
      go_enter Tryz.func16, Tryz.ntmps16
      go_wp2_with fail
      exact bodyPost_ret (v := .tuple #[.int .i64 1, .int .i64 (-1)]) (by simp [results, Tryz.results16, go_sem]) rfl ⟨by rw [HX3.out, HY5.out] <;> rfl, HX.out⟩
    · by_cases k13 : k5 = 13
      · subst k13
        go_enter Tryz.func16, Tryz.ntmps16
        go_wp2_with fail
        exact bodyPost_ret (v := .tuple #[.int .i64 1, .int .i64 b5]) (by simp [results, Tryz.results16, go_sem]) rfl ⟨by rw [HX3.out, HY5.out] <;> rfl, HX.out⟩
      · have f12 : (k5 == 12) = false := by rw [beq_eq_false_iff_ne]; exact k12
        have f13 : (k5 == 13) = false := by rw [beq_eq_false_iff_ne]; exact k13
        have HY6 : Hid (y = 0) := by show _ = _; rw [HY5.out, if_neg k12, if_neg k13]
        clear k12 k13
        go_enter Tryz.func16, Tryz.ntmps16
        go_wp2_with fail
        exact bodyPost_ret (v := .tuple #[.int .i64 1, .int .i64 0]) (by simp [results, Tryz.results16, go_sem]) rfl ⟨by rw [HX3.out, HY6.out] <;> rfl, HX.out⟩
  · skip
    by_cases k9 : k3 = 9
    · subst k9
      obtain ⟨g1, g2⟩ := H9.out rfl
      by_cases k12 : k5 = 12
      · subst k12
        go_enter Tryz.func16, Tryz.ntmps16
        go_wp2_with fail
        exact bodyPost_ret (v := .tuple #[.int .i64 (-a3), .int .i64 (-1)]) (by simp [results, Tryz.results16, go_sem]) rfl ⟨by rw [HX3.out, HY5.out] <;> rfl, HX.out⟩
      · by_cases k13 : k5 = 13
        · subst k13
          go_enter Tryz.func16, Tryz.ntmps16
          go_wp2_with fail
          exact bodyPost_ret (v := .tuple #[.int .i64 (-a3), .int .i64 b5]) (by simp [results, Tryz.results16, go_sem]) rfl ⟨by rw [HX3.out, HY5.out] <;> rfl, HX.out⟩
        · have f12 : (k5 == 12) = false := by rw [beq_eq_false_iff_ne]; exact k12
          have f13 : (k5 == 13) = false := by rw [beq_eq_false_iff_ne]; exact k13
          have HY6 : Hid (y = 0) := by show _ = _; rw [HY5.out, if_neg k12, if_neg k13]
          clear k12 k13
          go_enter Tryz.func16, Tryz.ntmps16
          go_wp2_with fail
          exact bodyPost_ret (v := .tuple #[.int .i64 (-a3), .int .i64 0]) (by simp [results, Tryz.results16, go_sem]) rfl ⟨by rw [HX3.out, HY6.out] <;> rfl, HX.out⟩
    · skip
      by_cases k10 : k3 = 10
      · subst k10
        by_cases k12 : k5 = 12
        · subst k12
          go_enter Tryz.func16, Tryz.ntmps16
          go_wp2_with fail
          exact bodyPost_ret (v := .tuple #[.int .i64 2, .int .i64 (-1)]) (by simp [results, Tryz.results16, go_sem]) rfl ⟨by rw [HX3.out, HY5.out] <;> rfl, HX.out⟩
        · by_cases k13 : k5 = 13
          · subst k13
            go_enter Tryz.func16, Tryz.ntmps16
            go_wp2_with fail
            exact bodyPost_ret (v := .tuple #[.int .i64 2, .int .i64 b5]) (by simp [results, Tryz.results16, go_sem]) rfl ⟨by rw [HX3.out, HY5.out] <;> rfl, HX.out⟩
          · have f12 : (k5 == 12) = false := by rw [beq_eq_false_iff_ne]; exact k12
            have f13 : (k5 == 13) = false := by rw [beq_eq_false_iff_ne]; exact k13
            have HY6 : Hid (y = 0) := by show _ = _; rw [HY5.out, if_neg k12, if_neg k13]
            clear k12 k13
            go_enter Tryz.func16, Tryz.ntmps16
            go_wp2_with fail
            exact bodyPost_ret (v := .tuple #[.int .i64 2, .int .i64 0]) (by simp [results, Tryz.results16, go_sem]) rfl ⟨by rw [HX3.out, HY6.out] <;> rfl, HX.out⟩
      · skip
        by_cases k11 : k3 = 11
        · subst k11
          by_cases k12 : k5 = 12
          · subst k12
            go_enter Tryz.func16, Tryz.ntmps16
            go_wp2_with fail
            exact bodyPost_ret (v := .tuple #[.int .i64 3, .int .i64 (-1)]) (by simp [results, Tryz.results16, go_sem]) rfl ⟨by rw [HX3.out, HY5.out] <;> rfl, HX.out⟩
          · by_cases k13 : k5 = 13
            · subst k13
              go_enter Tryz.func16, Tryz.ntmps16
              go_wp2_with fail
              exact bodyPost_ret (v := .tuple #[.int .i64 3, .int .i64 b5]) (by simp [results, Tryz.results16, go_sem]) rfl ⟨by rw [HX3.out, HY5.out] <;> rfl, HX.out⟩
            · have f12 : (k5 == 12) = false := by rw [beq_eq_false_iff_ne]; exact k12
              have f13 : (k5 == 13) = false := by rw [beq_eq_false_iff_ne]; exact k13
              have HY6 : Hid (y = 0) := by show _ = _; rw [HY5.out, if_neg k12, if_neg k13]
              clear k12 k13
              go_enter Tryz.func16, Tryz.ntmps16
              go_wp2_with fail
              exact bodyPost_ret (v := .tuple #[.int .i64 3, .int .i64 0]) (by simp [results, Tryz.results16, go_sem]) rfl ⟨by rw [HX3.out, HY6.out] <;> rfl, HX.out⟩
        · skip
          have f8 : (k3 == 8) = false := by rw [beq_eq_false_iff_ne]; exact k8
          have f9 : (k3 == 9) = false := by rw [beq_eq_false_iff_ne]; exact k9
          have f10 : (k3 == 10) = false := by rw [beq_eq_false_iff_ne]; exact k10
          have f11 : (k3 == 11) = false := by rw [beq_eq_false_iff_ne]; exact k11
          have HX4 : Hid (x = 0) := by show _ = _; rw [HX3.out, if_neg k8, if_neg k9, if_neg k10, if_neg k11]
          clear k8 k9 k10 k11 H9
          by_cases k12 : k5 = 12
          · subst k12
            go_enter Tryz.func16, Tryz.ntmps16
            go_wp2_with fail
            exact bodyPost_ret (v := .tuple #[.int .i64 0, .int .i64 (-1)]) (by simp [results, Tryz.results16, go_sem]) rfl ⟨by rw [HX4.out, HY5.out] <;> rfl, HX.out⟩
          · by_cases k13 : k5 = 13
            · subst k13
              go_enter Tryz.func16, Tryz.ntmps16
              go_wp2_with fail
              exact bodyPost_ret (v := .tuple #[.int .i64 0, .int .i64 b5]) (by simp [results, Tryz.results16, go_sem]) rfl ⟨by rw [HX4.out, HY5.out] <;> rfl, HX.out⟩
            · have f12 : (k5 == 12) = false := by rw [beq_eq_false_iff_ne]; exact k12
              have f13 : (k5 == 13) = false := by rw [beq_eq_false_iff_ne]; exact k13
              have HY6 : Hid (y = 0) := by show _ = _; rw [HY5.out, if_neg k12, if_neg k13]
              clear k12 k13
              go_enter Tryz.func16, Tryz.ntmps16
              go_wp2_with fail
              exact bodyPost_ret (v := .tuple #[.int .i64 0, .int .i64 0]) (by simp [results, Tryz.results16, go_sem]) rfl ⟨by rw [HX4.out, HY6.out] <;> rfl, HX.out⟩
end Go.Proofs.YtmaffdhcmdhjfaaGreatDoor
