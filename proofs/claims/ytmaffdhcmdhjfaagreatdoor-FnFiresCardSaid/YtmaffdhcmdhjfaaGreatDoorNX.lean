/- laws.FnNext returns true. -/
import Derived.Test.YtmaffdhcmdhjfaaGreatDoorNW
set_option linter.unusedSimpArgs false
set_option linter.unusedVariables false
namespace Go.Proofs.YtmaffdhcmdhjfaaGreatDoor
open Go.RowKit Go.Lib
attribute [local go_sem ↓] execOp_loadCron
theorem AskedIs.asks {c : CronV} {n prev : Int} (h : AskedIs c n prev) : Asks c := ⟨h.right, h.taken, h.stated⟩
theorem AskedIs.range {c : CronV} {n prev : Int} (h : AskedIs c n prev) : InRange n prev := ⟨h.n0, h.n1, h.p0, h.p1⟩
theorem next_text {c : CronV} (h : Asks c) {n : Int} (n0 : -1440 ≤ n) (n1 : n ≤ 1440) (prev : Int) (w : World) (hE : EnvN w) :
 Calls Tryz.prog 28 #[.string (mk c.text), .int .i64 n, .int .i64 prev] w fun e w' => e = .returned (.tuple #[.int .i64 (nextC c.cfgM n prev).1, .int .i64 (nextC c.cfgM n prev).2]) ∧ Ext w w' := by
 have hf := (fields_exact h.right).1
 have ht := taken_law h.right
 rw [h.taken] at ht
 have hl := h.right.len
 exact impl_Next (mk c.text) n prev c.fieldsL w (by rw [size_mk]; omega) n0 n1 (by rw [bytes_mk]; exact hf) ht (cfgM_ok h) hE
set_option maxHeartbeats 6400000 in
set_option maxRecDepth 1000000 in
theorem law_next (c : CronV) (hO : CronIn c) (n prev : Int) (w : World) (hI : CronItems w c) (hE : EnvN w) :
 Calls Tryz.prog 6 #[.agg c.cells, .int .i64 n, .int .i64 prev] w fun e w' => e = .returned (.bool true) ∧ Ext w w' := by
 have HC : Hid (CronAt (w.alloc (.cells c.cells 27)) w.heap.size c) := cron_alloc w c
 have HX : Hid (Ext w (w.alloc (.cells c.cells 27))) := Ext.alloc _ _
 have hld := HC.out.whole
 have HI := Lib.hid hI
 have HO := Lib.hid hO
 have HE := Lib.hid hE
 have HAK : Hid (∀ W, Ext w W → Calls Tryz.prog 22 #[.agg c.cells, .int .i64 n, .int .i64 prev] W fun e w' => e = .returned (.bool (askedB c n prev)) ∧ Ext W w') := fun W x => asked_any c hO n prev W (hI.ext x) (hE.ext x).env
 clear hI hO hE
 go_enter Tryz.func6, Tryz.ntmps6
 go_wp2_with fail
 go_at_call 12
 refine (fits_any c _).mono ?_
 rintro e w1 ⟨rfl, x1⟩
 have C1 := Lib.hid (HC.out.ext x1)
 have X1 := Lib.hid (HX.out.trans x1)
 clear x1 hld
 have hld := C1.out.whole
 go_wp2_with fail
 go_at_call 22
 refine (HAK.out _ X1.out).mono ?_
 rintro e w2 ⟨rfl, x2⟩
 have C2 := Lib.hid (C1.out.ext x2)
 have X2 := Lib.hid (X1.out.trans x2)
 clear x2 hld
 rcases ha : askedB c n prev
 ·go_wp2_with fail
  go_ret
  exact ⟨rfl, X2.out⟩
 ·have hA := asked_is ha
  have hi := hA.range
  have HA := Lib.hid hA.asks
  have HR := Lib.hid hi
  have HMS : Hid (∀ W, Ext w W → Calls Tryz.prog 25 #[.agg c.cells, .int .i64 n, .int .i64 prev] W fun e w' => e = .returned (.bool (c.missedB (secAt n prev))) ∧ Ext W w') := fun W x => sp_missed c hA.right n prev hi.n0 hi.n1 hi.p0 hi.p1 W (HI.out.ext x)
  have HIN : Hid (∀ W, Ext w W → Calls Tryz.prog 26 #[.agg c.cells, .int .i64 n, .int .i64 prev] W fun e w' => InstPost c n prev e ∧ Ext W w') := fun W x => sp_nextinstant c hA.right n prev hi.n0 hi.n1 hi.p0 hi.p1 W (HI.out.ext x)
  have HTX : Hid (∀ W, Ext w W → Calls Tryz.prog 14 #[.agg c.cells] W fun e w' => e = .returned (.string (mk c.text)) ∧ Ext W w') := fun W x => text_cron c (cron_ok HO.out hA.right.all) W (HI.out.ext x) (HE.out.ext x).env
  have HNT : Hid (∀ W, Ext w W → Calls Tryz.prog 28 #[.string (mk c.text), .int .i64 n, .int .i64 prev] W fun e w' => e = .returned (.tuple #[.int .i64 (nextC c.cfgM n prev).1, .int .i64 (nextC c.cfgM n prev).2]) ∧ Ext W w') := fun W x => next_text hA.asks hi.n0 hi.n1 prev W (HE.out.ext x)
  have HLAW : Hid (c.missedB (secAt n prev) = false → (∀ t, NextPost c (secAt n prev) t true → nextC c.cfgM n prev = ((t - n * 60) * 1000000000, 0)) ∧ (NextPost c (secAt n prev) 0 false → c.byYears = true → nextC c.cfgM n prev = (0, 1))) := fun hm => next_law hA.asks hi hm
  generalize mk c.text = tx at *
  generalize nextC c.cfgM n prev = NX at *
  clear ha hA hi HAK
  have hld := C2.out.whole
  rcases hm : c.missedB (secAt n prev)
  ·rw [hm] at HMS
   obtain ⟨l1, l2⟩ := HLAW.out hm
   have HL1 := Lib.hid l1
   have HL2 := Lib.hid l2
   clear hm HLAW l1 l2
   go_wp2_with fail
   go_at_call 25
   refine (HMS.out _ X2.out).mono ?_
   rintro e w3 ⟨rfl, x3⟩
   have C3 := Lib.hid (C2.out.ext x3)
   have X3 := Lib.hid (X2.out.trans x3)
   clear x3 hld
   have hld := C3.out.whole
   go_wp2_with fail
   go_at_call 26
   refine (HIN.out _ X3.out).mono ?_
   rintro e w4 ⟨⟨t, hp, rfl⟩ | ⟨hp, rfl⟩, x4⟩
   ·have C4 := Lib.hid (C3.out.ext x4)
    have X4 := Lib.hid (X3.out.trans x4)
    have HNX := Lib.hid (HL1.out t hp)
    clear x4 hld hp
    have hld := C4.out.whole
    generalize (t - n * 60) * 1000000000 = Z at *
    go_wp2_with fail
    go_at_call 14
    refine (HTX.out _ X4.out).mono ?_
    rintro e w5 ⟨rfl, x5⟩
    have X5 := Lib.hid (X4.out.trans x5)
    clear x5 hld
    go_wp2_with fail
    go_at_call 28
    refine (HNT.out _ X5.out).mono ?_
    rintro e w6 ⟨rfl, x6⟩
    have X6 := Lib.hid (X5.out.trans x6)
    clear x6
    rw [HNX.out]
    go_wp2_with fail
    go_ret
    exact ⟨by first | rfl | simp, X6.out⟩
   ·have C4 := Lib.hid (C3.out.ext x4)
    have X4 := Lib.hid (X3.out.trans x4)
    have HNX := Lib.hid (HL2.out hp)
    clear x4 hld hp
    have hld := C4.out.whole
    have HBY := Lib.hid (by_years c w4)
    rcases hb : c.byYears
    ·rw [hb] at HBY
     clear hb
     go_wp2_with fail
     go_at_call 27
     refine HBY.out.mono ?_
     rintro e w5 ⟨rfl, x5⟩
     have X5 := Lib.hid (X4.out.trans x5)
     clear x5 hld
     go_wp2_with fail
     go_ret
     exact ⟨rfl, X5.out⟩
    ·rw [hb] at HBY
     have HN2 := Lib.hid (HNX.out hb)
     clear hb
     go_wp2_with fail
     go_at_call 27
     refine HBY.out.mono ?_
     rintro e w5 ⟨rfl, x5⟩
     have C5 := Lib.hid (C4.out.ext x5)
     have X5 := Lib.hid (X4.out.trans x5)
     clear x5 hld
     have hld := C5.out.whole
     go_wp2_with fail
     go_at_call 14
     refine (HTX.out _ X5.out).mono ?_
     rintro e w6 ⟨rfl, x6⟩
     have X6 := Lib.hid (X5.out.trans x6)
     clear x6 hld
     go_wp2_with fail
     go_at_call 28
     refine (HNT.out _ X6.out).mono ?_
     rintro e w7 ⟨rfl, x7⟩
     have X7 := Lib.hid (X6.out.trans x7)
     clear x7
     rw [HN2.out]
     go_wp2_with fail
     go_ret
     exact ⟨by first | rfl | simp, X7.out⟩
  ·rw [hm] at HMS
   clear hm HLAW
   go_wp2_with fail
   go_at_call 25
   refine (HMS.out _ X2.out).mono ?_
   rintro e w3 ⟨rfl, x3⟩
   go_wp2_with fail
   go_ret
   exact ⟨rfl, X2.out.trans x3⟩
end Go.Proofs.YtmaffdhcmdhjfaaGreatDoor
