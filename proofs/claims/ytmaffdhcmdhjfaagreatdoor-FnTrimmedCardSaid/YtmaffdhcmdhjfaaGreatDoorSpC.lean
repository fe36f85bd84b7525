/- spec.simple. -/
import Derived.Test.YtmaffdhcmdhjfaaGreatDoorLawB
import Derived.Test.YtmaffdhcmdhjfaaGreatDoorCls
import Derived.Deep.DeepCutAuto
namespace Go.Proofs.YtmaffdhcmdhjfaaGreatDoor
open Go.RowKit Go.Lib

/-- the boxed part is there -/
def Boxed (w : World) (k a b s : Int) (W : World) : Prop :=
  Ext w W ∧ W.cell? ⟨w.heap.size, 0, none⟩ = some (.int .i64 k) ∧ W.cell? ⟨w.heap.size, 1, none⟩ = some (.int .i64 a) ∧ W.cell? ⟨w.heap.size, 2, none⟩ = some (.int .i64 b) ∧ W.cell? ⟨w.heap.size, 3, none⟩ = some (.int .i64 s)
theorem Boxed.step {w : World} {k a b s : Int} {W W' : World} (h : Boxed w k a b s W) (x : Ext W W') : Boxed w k a b s W' :=
  ⟨h.1.trans x, x.cell h.2.1, x.cell h.2.2.1, x.cell h.2.2.2.1, x.cell h.2.2.2.2⟩
theorem Boxed.drew {w : World} {k a b s : Int} {W : World} (h : Boxed w k a b s W) : Boxed w k a b s W.drew := h.step (Ext.drew _)

set_option maxHeartbeats 3200000 in
set_option maxRecDepth 1000000 in
theorem simple_any (f : Nat) (hf : f < 7) (k a b s n : Int) (it : Value) (w : World) :
    Calls Tryz.prog 59 #[.int .i64 f, .agg #[.int .i64 k, .int .i64 a, .int .i64 b, .int .i64 s, .int .i64 n, it]] w fun e w' => e = .returned (.bool (simpleB f k a b s)) ∧ Ext w w' := by
  obtain ⟨lo, hlo⟩ : ∃ lo, lo = leastF f := ⟨_, rfl⟩
  obtain ⟨hi, hhi⟩ : ∃ hi, hi = mostF f := ⟨_, rfl⟩
  have HLs : Hid (∀ W, Boxed w k a b s W → Calls Tryz.prog 58 #[.int .i64 f] W fun e W' => e = .returned (.int .i64 lo) ∧ Boxed w k a b s W') := fun W hW => by
    rw [hlo]
    refine (least_any f hf W).mono ?_
    rintro e w1 ⟨rfl, x⟩
    exact ⟨rfl, hW.step x⟩
  have HMs : Hid (∀ W, Boxed w k a b s W → Calls Tryz.prog 57 #[.int .i64 f] W fun e W' => e = .returned (.int .i64 hi) ∧ Boxed w k a b s W') := fun W hW => by
    rw [hhi]
    refine (most_any f hf W).mono ?_
    rintro e w1 ⟨rfl, x⟩
    exact ⟨rfl, hW.step x⟩
  obtain ⟨within, hwi⟩ : ∃ x, x = (decide (lo ≤ a) && decide (a ≤ hi)) := ⟨_, rfl⟩
  obtain ⟨step, hst⟩ : ∃ x, x = (decide (1 ≤ s) && decide (s ≤ hi)) := ⟨_, rfl⟩
  have HR : Hid (simpleB f k a b s = if k = 2 then within else if k = 3 then within && decide (a ≤ b) && decide (b ≤ hi) else if k = 4 then within && step && decide (f < 6) else if k = 5 then step && decide (f < 6) else if k = 6 then within && step && decide (a ≤ b) && decide (b ≤ hi) else false) := by
    show _ = _
    rw [hwi, hst, hlo, hhi]; rfl
  clear hlo hhi
  have Hb0 : Hid (Boxed w k a b s (w.alloc (.cells #[.int .i64 k, .int .i64 a, .int .i64 b, .int .i64 s, .int .i64 n, it] 24))) :=
    ⟨Ext.alloc _ _, by simp, by simp, by simp, by simp⟩
  have Hwi := Lib.hid hwi
  have Hst := Lib.hid hst
  clear hwi hst
  go_enter Tryz.func59, Tryz.ntmps59
  go_upto_region 1 with fail
  go_cut [5] (fun v5 W => v5 = .bool within ∧ Hid (Boxed w k a b s W))
  case first =>
    have HB := Hb0
    rcases h1 : decide (lo ≤ a)
    · have Hw : Hid (within = false) := by show _ = _; rw [Hwi.out, h1]; rfl
      obtain ⟨T, g, hT, h0, hS, hI⟩ := cls_intro (Boxed w _ a b s) _ (Boxed.drew HB.out)
      have c0 := fun t => (hS t).2.1
      have c1 := fun t => (hS t).2.2.1
      have c2 := fun t => (hS t).2.2.2.1
      have c3 := fun t => (hS t).2.2.2.2
      have HS := Lib.hid hS
      have HI := Lib.hid hI
      clear hS hI
      refine wp_region_cls g (by kernel_rfl) (by kernel_rfl) h0 ?_
      clear h0
      repeat (go_big_quiet_step (first
        | (go_at_call 58; exact calls_cls HI.out (HLs.out _ (HS.out _)))
        | (go_at_call 57; exact calls_cls HI.out (HMs.out _ (HS.out _)))))
      refine wpQuiet_nil ?_
      rintro _ ⟨t, rfl⟩
      clear c0 c1 c2 c3
      go_wp2_with fail
      go_meet
      exact ⟨by rw [Hw.out], HS.out t⟩
    · have Hw : Hid (within = decide (a ≤ hi)) := by show _ = _; rw [Hwi.out, h1]; rfl
      obtain ⟨T, g, hT, h0, hS, hI⟩ := cls_intro (Boxed w _ a b s) _ (Boxed.drew HB.out)
      have c0 := fun t => (hS t).2.1
      have c1 := fun t => (hS t).2.2.1
      have c2 := fun t => (hS t).2.2.2.1
      have c3 := fun t => (hS t).2.2.2.2
      have HS := Lib.hid hS
      have HI := Lib.hid hI
      clear hS hI
      refine wp_region_cls g (by kernel_rfl) (by kernel_rfl) h0 ?_
      clear h0
      repeat (go_big_quiet_step (first
        | (go_at_call 58; exact calls_cls HI.out (HLs.out _ (HS.out _)))
        | (go_at_call 57; exact calls_cls HI.out (HMs.out _ (HS.out _)))))
      refine wpQuiet_nil ?_
      rintro _ ⟨t, rfl⟩
      clear c0 c1 c2 c3
      go_wp2_with fail
      go_meet
      exact ⟨by rw [Hw.out], HS.out t⟩
  case rest =>
    obtain ⟨rfl, HB⟩ := hcut
    clear Hb0
    go_upto_region 2 with fail
    go_cut [6] (fun v6 W => v6 = .bool step ∧ Hid (Boxed w k a b s W))
    case first =>
      rcases h1 : decide (1 ≤ s)
      · have Hw : Hid (step = false) := by show _ = _; rw [Hst.out, h1]; rfl
        obtain ⟨T, g, hT, h0, hS, hI⟩ := cls_intro (Boxed w _ a b s) _ (Boxed.drew HB.out)
        have c0 := fun t => (hS t).2.1
        have c1 := fun t => (hS t).2.2.1
        have c2 := fun t => (hS t).2.2.2.1
        have c3 := fun t => (hS t).2.2.2.2
        have HS := Lib.hid hS
        have HI := Lib.hid hI
        clear hS hI
        refine wp_region_cls g (by kernel_rfl) (by kernel_rfl) h0 ?_
        clear h0
        repeat (go_big_quiet_step (first
          | (go_at_call 58; exact calls_cls HI.out (HLs.out _ (HS.out _)))
          | (go_at_call 57; exact calls_cls HI.out (HMs.out _ (HS.out _)))))
        refine wpQuiet_nil ?_
        rintro _ ⟨t, rfl⟩
        clear c0 c1 c2 c3
        go_wp2_with fail
        go_meet
        exact ⟨by rw [Hw.out], HS.out t⟩
      · have Hw : Hid (step = decide (s ≤ hi)) := by show _ = _; rw [Hst.out, h1]; rfl
        obtain ⟨T, g, hT, h0, hS, hI⟩ := cls_intro (Boxed w _ a b s) _ (Boxed.drew HB.out)
        have c0 := fun t => (hS t).2.1
        have c1 := fun t => (hS t).2.2.1
        have c2 := fun t => (hS t).2.2.2.1
        have c3 := fun t => (hS t).2.2.2.2
        have HS := Lib.hid hS
        have HI := Lib.hid hI
        clear hS hI
        refine wp_region_cls g (by kernel_rfl) (by kernel_rfl) h0 ?_
        clear h0
        repeat (go_big_quiet_step (first
          | (go_at_call 58; exact calls_cls HI.out (HLs.out _ (HS.out _)))
          | (go_at_call 57; exact calls_cls HI.out (HMs.out _ (HS.out _)))))
        refine wpQuiet_nil ?_
        rintro _ ⟨t, rfl⟩
        clear c0 c1 c2 c3
        go_wp2_with fail
        go_meet
        exact ⟨by rw [Hw.out], HS.out t⟩
    case rest =>
      obtain ⟨rfl, HB⟩ := hcut
      clear Hwi Hst
      have c0 := HB.out.2.1
      by_cases k2 : k = 2
      · subst k2
        go_wp2_with fail
        go_ret
        exact ⟨ret_bool (by rw [HR.out]; simp), HB.out.1⟩
      · by_cases k3 : k = 3
        · subst k3
          rcases within
          · skip
            go_wp2_with fail
            obtain ⟨T, g, hT, h0, hS, hI⟩ := cls_intro (Boxed w _ a b s) _ (Boxed.drew HB.out)
            have c0 := fun t => (hS t).2.1
            have c1 := fun t => (hS t).2.2.1
            have c2 := fun t => (hS t).2.2.2.1
            have c3 := fun t => (hS t).2.2.2.2
            have HS := Lib.hid hS
            have HI := Lib.hid hI
            clear hS hI
            refine wp_region_cls g (by kernel_rfl) (by kernel_rfl) h0 ?_
            clear h0
            repeat (go_big_quiet_step (first
              | (go_at_call 58; exact calls_cls HI.out (HLs.out _ (HS.out _)))
              | (go_at_call 57; exact calls_cls HI.out (HMs.out _ (HS.out _)))))
            refine wpQuiet_nil ?_
            rintro _ ⟨t, rfl⟩
            clear c0 c1 c2 c3
            go_wp2_with fail
            go_ret
            exact ⟨ret_bool (by rw [HR.out]; simp []), (HS.out t).1⟩
          · skip
            rcases hab : decide (a ≤ b)
            · have Hab := Lib.hid hab
              go_wp2_with fail
              obtain ⟨T, g, hT, h0, hS, hI⟩ := cls_intro (Boxed w _ a b s) _ (Boxed.drew HB.out)
              have c0 := fun t => (hS t).2.1
              have c1 := fun t => (hS t).2.2.1
              have c2 := fun t => (hS t).2.2.2.1
              have c3 := fun t => (hS t).2.2.2.2
              have HS := Lib.hid hS
              have HI := Lib.hid hI
              clear hS hI
              refine wp_region_cls g (by kernel_rfl) (by kernel_rfl) h0 ?_
              clear h0
              repeat (go_big_quiet_step (first
                | (go_at_call 58; exact calls_cls HI.out (HLs.out _ (HS.out _)))
                | (go_at_call 57; exact calls_cls HI.out (HMs.out _ (HS.out _)))))
              refine wpQuiet_nil ?_
              rintro _ ⟨t, rfl⟩
              clear c0 c1 c2 c3
              go_wp2_with fail
              go_ret
              exact ⟨ret_bool (by rw [HR.out]; simp [Hab.out]), (HS.out t).1⟩
            · have Hab := Lib.hid hab
              go_wp2_with fail
              obtain ⟨T, g, hT, h0, hS, hI⟩ := cls_intro (Boxed w _ a b s) _ (Boxed.drew HB.out)
              have c0 := fun t => (hS t).2.1
              have c1 := fun t => (hS t).2.2.1
              have c2 := fun t => (hS t).2.2.2.1
              have c3 := fun t => (hS t).2.2.2.2
              have HS := Lib.hid hS
              have HI := Lib.hid hI
              clear hS hI
              refine wp_region_cls g (by kernel_rfl) (by kernel_rfl) h0 ?_
              clear h0
              repeat (go_big_quiet_step (first
                | (go_at_call 58; exact calls_cls HI.out (HLs.out _ (HS.out _)))
                | (go_at_call 57; exact calls_cls HI.out (HMs.out _ (HS.out _)))))
              refine wpQuiet_nil ?_
              rintro _ ⟨t, rfl⟩
              clear c0 c1 c2 c3
              go_wp2_with fail
              go_ret
              exact ⟨ret_bool (by rw [HR.out]; simp [Hab.out]), (HS.out t).1⟩
        · by_cases k4 : k = 4
          · subst k4
            have hf' : decide ((f : Int) < 6) = decide (f < 6) := by congr 1; apply propext; omega
            rcases hf6 : decide (f < 6)
            all_goals
              rw [hf6] at hf'
              have Hf := Lib.hid hf6
              clear hf6
              rcases within <;> rcases step
              all_goals
                go_wp2_with fail
                go_ret
                exact ⟨ret_bool (by rw [HR.out, Hf.out]; simp), HB.out.1⟩
          · by_cases k5 : k = 5
            · subst k5
              have hf' : decide ((f : Int) < 6) = decide (f < 6) := by congr 1; apply propext; omega
              rcases hf6 : decide (f < 6)
              all_goals
                rw [hf6] at hf'
                have Hf := Lib.hid hf6
                clear hf6
                rcases step
                all_goals
                  go_wp2_with fail
                  go_ret
                  exact ⟨ret_bool (by rw [HR.out, Hf.out]; simp), HB.out.1⟩
            · by_cases k6 : k = 6
              · subst k6
                rcases within
                · skip
                  go_wp2_with fail
                  obtain ⟨T, g, hT, h0, hS, hI⟩ := cls_intro (Boxed w _ a b s) _ (Boxed.drew HB.out)
                  have c0 := fun t => (hS t).2.1
                  have c1 := fun t => (hS t).2.2.1
                  have c2 := fun t => (hS t).2.2.2.1
                  have c3 := fun t => (hS t).2.2.2.2
                  have HS := Lib.hid hS
                  have HI := Lib.hid hI
                  clear hS hI
                  refine wp_region_cls g (by kernel_rfl) (by kernel_rfl) h0 ?_
                  clear h0
                  repeat (go_big_quiet_step (first
                    | (go_at_call 58; exact calls_cls HI.out (HLs.out _ (HS.out _)))
                    | (go_at_call 57; exact calls_cls HI.out (HMs.out _ (HS.out _)))))
                  refine wpQuiet_nil ?_
                  rintro _ ⟨t, rfl⟩
                  clear c0 c1 c2 c3
                  go_wp2_with fail
                  go_ret
                  exact ⟨ret_bool (by rw [HR.out]; simp []), (HS.out t).1⟩
                · rcases step
                  · skip
                    go_wp2_with fail
                    obtain ⟨T, g, hT, h0, hS, hI⟩ := cls_intro (Boxed w _ a b s) _ (Boxed.drew HB.out)
                    have c0 := fun t => (hS t).2.1
                    have c1 := fun t => (hS t).2.2.1
                    have c2 := fun t => (hS t).2.2.2.1
                    have c3 := fun t => (hS t).2.2.2.2
                    have HS := Lib.hid hS
                    have HI := Lib.hid hI
                    clear hS hI
                    refine wp_region_cls g (by kernel_rfl) (by kernel_rfl) h0 ?_
                    clear h0
                    repeat (go_big_quiet_step (first
                      | (go_at_call 58; exact calls_cls HI.out (HLs.out _ (HS.out _)))
                      | (go_at_call 57; exact calls_cls HI.out (HMs.out _ (HS.out _)))))
                    refine wpQuiet_nil ?_
                    rintro _ ⟨t, rfl⟩
                    clear c0 c1 c2 c3
                    go_wp2_with fail
                    go_ret
                    exact ⟨ret_bool (by rw [HR.out]; simp []), (HS.out t).1⟩
                  · skip
                    rcases hab : decide (a ≤ b)
                    · have Hab := Lib.hid hab
                      go_wp2_with fail
                      obtain ⟨T, g, hT, h0, hS, hI⟩ := cls_intro (Boxed w _ a b s) _ (Boxed.drew HB.out)
                      have c0 := fun t => (hS t).2.1
                      have c1 := fun t => (hS t).2.2.1
                      have c2 := fun t => (hS t).2.2.2.1
                      have c3 := fun t => (hS t).2.2.2.2
                      have HS := Lib.hid hS
                      have HI := Lib.hid hI
                      clear hS hI
                      refine wp_region_cls g (by kernel_rfl) (by kernel_rfl) h0 ?_
                      clear h0
                      repeat (go_big_quiet_step (first
                        | (go_at_call 58; exact calls_cls HI.out (HLs.out _ (HS.out _)))
                        | (go_at_call 57; exact calls_cls HI.out (HMs.out _ (HS.out _)))))
                      refine wpQuiet_nil ?_
                      rintro _ ⟨t, rfl⟩
                      clear c0 c1 c2 c3
                      go_wp2_with fail
                      go_ret
                      exact ⟨ret_bool (by rw [HR.out]; simp [Hab.out]), (HS.out t).1⟩
                    · have Hab := Lib.hid hab
                      go_wp2_with fail
                      obtain ⟨T, g, hT, h0, hS, hI⟩ := cls_intro (Boxed w _ a b s) _ (Boxed.drew HB.out)
                      have c0 := fun t => (hS t).2.1
                      have c1 := fun t => (hS t).2.2.1
                      have c2 := fun t => (hS t).2.2.2.1
                      have c3 := fun t => (hS t).2.2.2.2
                      have HS := Lib.hid hS
                      have HI := Lib.hid hI
                      clear hS hI
                      refine wp_region_cls g (by kernel_rfl) (by kernel_rfl) h0 ?_
                      clear h0
                      repeat (go_big_quiet_step (first
                        | (go_at_call 58; exact calls_cls HI.out (HLs.out _ (HS.out _)))
                        | (go_at_call 57; exact calls_cls HI.out (HMs.out _ (HS.out _)))))
                      refine wpQuiet_nil ?_
                      rintro _ ⟨t, rfl⟩
                      clear c0 c1 c2 c3
                      go_wp2_with fail
                      go_ret
                      exact ⟨ret_bool (by rw [HR.out]; simp [Hab.out]), (HS.out t).1⟩
              · have K := Lib.hid (show k ≠ 2 ∧ k ≠ 3 ∧ k ≠ 4 ∧ k ≠ 5 ∧ k ≠ 6 from ⟨k2, k3, k4, k5, k6⟩)
                have e2 : (k == 2) = false := by rw [beq_eq_false_iff_ne]; exact k2
                have e3 : (k == 3) = false := by rw [beq_eq_false_iff_ne]; exact k3
                have e4 : (k == 4) = false := by rw [beq_eq_false_iff_ne]; exact k4
                have e5 : (k == 5) = false := by rw [beq_eq_false_iff_ne]; exact k5
                have e6 : (k == 6) = false := by rw [beq_eq_false_iff_ne]; exact k6
                clear k2 k3 k4 k5 k6
                go_wp2_with fail
                go_ret
                exact ⟨ret_bool (by rw [HR.out]; simp [K.out.1, K.out.2.1, K.out.2.2.1, K.out.2.2.2.1, K.out.2.2.2.2]), HB.out.1⟩
end Go.Proofs.YtmaffdhcmdhjfaaGreatDoor
