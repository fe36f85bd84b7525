/- spec.dayFits. The spec's search for the next second: its steps, plain. spec.NextSecond, Second, Instant. spec.Second, Instant, NextInstant. spec.Missed. -/
import Derived.Test.YtmaffdhcmdhjfaaGreatDoorNT
import Derived.Test.YtmaffdhcmdhjfaaGreatDoorNJ
set_option linter.unusedSimpArgs false
set_option linter.unusedVariables false
namespace Go.Proofs.YtmaffdhcmdhjfaaGreatDoor
open Go.RowKit Go.Lib
attribute [local go_sem ↓] execOp_loadCron
def CronV.dayB (c : CronV) (y m d : Int) : Bool :=
 if (c.p 3).k = 8 then decide (d = Cal.mlen y m)
 else if (c.p 3).k = 9 then decide (d = Cal.mlen y m - (c.p 3).a)
 else if (c.p 3).k = 10 then decide (d = Csm.closestW y m (if Cal.mlen y m < (c.p 3).a then Cal.mlen y m else (c.p 3).a))
 else if (c.p 3).k = 11 then decide (d = Csm.closestW y m (Cal.mlen y m))
 else if (c.p 5).k = 12 then decide (Csm.wday y m d = (c.p 5).a - 1) && decide (Cal.mlen y m < d + 7)
 else if (c.p 5).k = 13 then decide (Csm.wday y m d = (c.p 5).a - 1) && decide ((d - 1) / 7 + 1 = (c.p 5).b)
 else amongB (c.numsAt 3) d && amongB (c.numsAt 5) (Csm.wday y m d)
theorem ext_drewK (w : World) : ∀ k, Ext w (w.drewN k)
 | 0 => Below.refl _ _
 | k + 1 => (ext_drewK w k).trans (Ext.drew _)
set_option maxHeartbeats 6400000 in
set_option maxRecDepth 1000000 in
theorem sp_dayfits (c : CronV) (h3 : (c.p 3).rightB 3 = true) (h5 : (c.p 5).rightB 5 = true) (g cap : Nat) (hlen : ∀ i, i < 7 → (c.numsAt i).length ≤ 100000000) (y m d : Int) (y0 : 1970 ≤ y) (y1 : y ≤ 2300) (m0 : 1 ≤ m) (m1 : m ≤ 12) (d0 : 1 ≤ d) (d1 : d ≤ 40) (w : World) (hR : RowsAt w g c.numsAt) :
 Calls Tryz.prog 70 #[.agg c.cells, .slice (some ⟨g, 0, none⟩) 7 cap, .int .i64 y, .int .i64 m, .int .i64 d] w fun e w' => e = .returned (.bool (c.dayB y m d)) ∧ Ext w w' := by
 have HC : Hid (CronAt (w.alloc (.cells c.cells 27)) w.heap.size c) := cron_alloc w c
 have HX : Hid (Ext w (w.alloc (.cells c.cells 27))) := Ext.alloc _ _
 have HLN : Hid (∀ W : World, Calls Tryz.prog 49 #[.int .i64 y, .int .i64 m] W fun e w' => e = .returned (.int .i64 (Cal.mlen y m)) ∧ W = w') := fun W => sp_length y m (by omega) (by omega) W
 have HCL : Hid (∀ (a : Int) (W : World), 1 ≤ a → a ≤ 31 → Calls Tryz.prog 50 #[.int .i64 y, .int .i64 m, .int .i64 a] W fun e w' => e = .returned (.int .i64 (Csm.closestW y m (if Cal.mlen y m < a then Cal.mlen y m else a))) ∧ W = w') := fun a W a0 a1 => sp_closest y m a y0 y1 m0 m1 a0 a1 W
 have HLW : Hid (∀ W : World, Calls Tryz.prog 51 #[.int .i64 y, .int .i64 m] W fun e w' => e = .returned (.int .i64 (Csm.closestW y m (Cal.mlen y m))) ∧ W = w') := fun W => sp_lastwork y m y0 y1 m0 m1 W
 have HWD : Hid (∀ W : World, Calls Tryz.prog 86 #[.int .i64 y, .int .i64 m, .int .i64 d] W fun e w' => e = .returned (.int .i64 (Csm.wday y m d)) ∧ W = w') := fun W => sp_weekday y m d y0 y1 m0 m1 d0 (by omega) W
 have HRW : Hid (∀ W, Ext w W → RowsAt W g c.numsAt) := fun W x => hR.ext x
 have HLE := Lib.hid hlen
 have hml := Cal.mlen_bd y m
 have hwb := Csm.wday_bd y m d
 have HB : Hid (c.dayB y m d = if (c.p 3).k = 8 then decide (d = Cal.mlen y m)
  else if (c.p 3).k = 9 then decide (d = Cal.mlen y m - (c.p 3).a)
  else if (c.p 3).k = 10 then decide (d = Csm.closestW y m (if Cal.mlen y m < (c.p 3).a then Cal.mlen y m else (c.p 3).a))
  else if (c.p 3).k = 11 then decide (d = Csm.closestW y m (Cal.mlen y m))
  else if (c.p 5).k = 12 then decide (Csm.wday y m d = (c.p 5).a - 1) && decide (Cal.mlen y m < d + 7)
  else if (c.p 5).k = 13 then decide (Csm.wday y m d = (c.p 5).a - 1) && decide ((d - 1) / 7 + 1 = (c.p 5).b)
  else amongB (c.numsAt 3) d && amongB (c.numsAt 5) (Csm.wday y m d)) := rfl
 have R3 := right_case h3
 have R5 := right_case h5
 have HR3 := Lib.hid R3
 have HR5 := Lib.hid R5
 generalize c.dayB y m d = R at *
 clear hR hlen h3 h5 R3 R5
 have d30 := HC.out.k 3 (by omega)
 have d31 := HC.out.a 3 (by omega)
 have d32 := HC.out.b 3 (by omega)
 have d33 := HC.out.s 3 (by omega)
 have d34 := HC.out.n 3 (by omega)
 have d35 := HC.out.it 3 (by omega)
 have d50 := HC.out.k 5 (by omega)
 have d51 := HC.out.a 5 (by omega)
 have d52 := HC.out.b 5 (by omega)
 have d53 := HC.out.s 5 (by omega)
 have d54 := HC.out.n 5 (by omega)
 have d55 := HC.out.it 5 (by omega)
 have hB : w.heap.size < (w.alloc (.cells c.cells 27)).heap.size := block_lt HC.out.blk
 have hB2 : w.heap.size < (w.alloc (.cells c.cells 27)).heap.size + 1 := by omega
 go_enter Tryz.func70, Tryz.ntmps70
 go_upto_region 1 with fail
 generalize hwa : w.alloc (.cells c.cells 27) = wa at *
 go_cut [11, 12] (fun v4 v5 W => ∃ B4 B5, v4 = .pointer (some ⟨B4, 0, none⟩) ∧ v5 = .pointer (some ⟨B5, 0, none⟩) ∧ Hid (PartAt W B4 (c.p 3)) ∧ Hid (PartAt W B5 (c.p 5)) ∧ Hid (Ext wa W))
 case first =>
  go_region
  all_goals (
   go_wp2_with fail
   go_meet
   exact ⟨_, _, rfl, rfl, ⟨by simp [go_sem], by simp [go_sem], by simp [go_sem], by simp [go_sem], by simp [go_sem], by simp [go_sem]⟩, ⟨by simp [go_sem], by simp [go_sem], by simp [go_sem], by simp [go_sem], by simp [go_sem], by simp [go_sem]⟩, ((Ext.alloc _ _).trans (Ext.alloc _ _)).trans (Ext.drew _)⟩)
 case rest =>
  obtain ⟨B4, B5, rfl, rfl, HP4, HP5, HE⟩ := hcut
  clear d30 d31 d32 d33 d34 d35 d50 d51 d52 d53 d54 d55 hB hB2
  obtain ⟨wd, rfl⟩ : ∃ wd : World, wd = wc := ⟨_, rfl⟩
  have X2 : Hid (Ext w wd) := HX.out.trans HE.out
  have p0 := HP4.out.k
  have p1 := HP4.out.a
  have q0 := HP5.out.k
  have q1 := HP5.out.a
  have q2 := HP5.out.b
  clear HP4 HP5 HC HX HE
  generalize Cal.mlen y m = L at *
  generalize Csm.wday y m d = W at *
  obtain ⟨l0, l1⟩ := hml
  obtain ⟨v0, v1⟩ := hwb
  cases HR3.out with
  | last k _ =>
    rw [k] at p0
    have HB2 : Hid (R = decide (d = L)) := by show _ = _; rw [HB.out, if_pos k]
    clear q0 q1 q2 k p1
    go_wp2_with fail
    go_at_call 49
    refine (HLN.out _).mono ?_
    rintro e w1 ⟨rfl, rfl⟩
    go_wp2_with fail
    go_ret
    exact ⟨ret_bool (by rw [HB2.out]; try (first | rfl | simp)), X2.out⟩
  | before k _ a1 a31 =>
    rw [k] at p0
    have HB2 : Hid (R = decide (d = L - (c.p 3).a)) := by show _ = _; rw [HB.out, if_neg (by omega), if_pos k]
    clear q0 q1 q2 k HB
    generalize (c.p 3).a = A at *
    go_wp2_with fail
    go_quiet (first | (go_at_call 49; refine Calls.quiet_of_same ((HLN.out _).mono fun e w2 h => ⟨h.1, h.2.symm⟩)))
    go_wp2_with fail
    go_ret
    exact ⟨ret_bool (by rw [HB2.out]; try (first | rfl | simp)), X2.out.trans (ext_drewK _ _)⟩
  | closest k _ a1 a31 =>
    rw [k] at p0
    have HB2 : Hid (R = decide (d = Csm.closestW y m (if L < (c.p 3).a then L else (c.p 3).a))) := by show _ = _; rw [HB.out, if_neg (by omega), if_neg (by omega), if_pos k]
    have HCC : Hid (∀ w : World, Calls Tryz.prog 50 #[.int .i64 y, .int .i64 m, .int .i64 (c.p 3).a] w fun e w' => e = .returned (.int .i64 (Csm.closestW y m (if L < (c.p 3).a then L else (c.p 3).a))) ∧ w = w') := fun w => HCL.out (c.p 3).a w a1 a31
    clear q0 q1 q2 k HB HCL
    generalize Csm.closestW y m (if L < (c.p 3).a then L else (c.p 3).a) = D at *
    generalize (c.p 3).a = A at *
    go_wp2_with fail
    go_at_call 50
    refine (HCC.out _).mono ?_
    rintro e w1 ⟨rfl, rfl⟩
    go_wp2_with fail
    go_ret
    exact ⟨ret_bool (by rw [HB2.out]; try (first | rfl | simp)), X2.out⟩
  | lastWork k _ =>
    rw [k] at p0
    have HB2 : Hid (R = decide (d = Csm.closestW y m L)) := by show _ = _; rw [HB.out, if_neg (by omega), if_neg (by omega), if_neg (by omega), if_pos k]
    clear q0 q1 q2 k HB HCL p1
    generalize Csm.closestW y m L = D at *
    go_wp2_with fail
    go_at_call 51
    refine (HLW.out _).mono ?_
    rintro e w1 ⟨rfl, rfl⟩
    go_wp2_with fail
    go_ret
    exact ⟨ret_bool (by rw [HB2.out]; try (first | rfl | simp)), X2.out⟩
  | lastOf _ k => exact absurd k (by decide)
  | nth _ k => exact absurd k (by decide)
  | common k8 k0 _ =>
    have HK : Hid (R = if (c.p 5).k = 12 then decide (W = (c.p 5).a - 1) && decide (L < d + 7)
     else if (c.p 5).k = 13 then decide (W = (c.p 5).a - 1) && decide ((d - 1) / 7 + 1 = (c.p 5).b)
     else amongB (c.numsAt 3) d && amongB (c.numsAt 5) W) := by
     show _ = _; rw [HB.out, if_neg (by omega), if_neg (by omega), if_neg (by omega), if_neg (by omega)]
    have b8 : ((c.p 3).k == 8) = false := by simp; omega
    have b9 : ((c.p 3).k == 9) = false := by simp; omega
    have b10 : ((c.p 3).k == 10) = false := by simp; omega
    have b11 : ((c.p 3).k == 11) = false := by simp; omega
    clear HB HCL HLW p1
    cases HR5.out with
    | last _ k => exact absurd k (by decide)
    | lastWork _ k => exact absurd k (by decide)
    | before _ k => exact absurd k (by decide)
    | closest _ k => exact absurd k (by decide)
    | lastOf k _ a1 a7 =>
      rw [k] at q0
      have HB2 : Hid (R = (decide (W = (c.p 5).a - 1) && decide (L < d + 7))) := by show _ = _; rw [HK.out, if_pos k]
      clear k HK q2
      generalize (c.p 3).k = K3 at *
      generalize (c.p 5).a = A at *
      by_cases hw : W = A - 1
      ·have HB3 : Hid (R = decide (L < d + 7)) := by show _ = _; rw [HB2.out]; simp [hw]
       have hwb : (W == A - 1) = true := by simp [hw]
       clear HB2 hw
       go_wp2_with fail
       go_at_call 86
       refine (HWD.out _).mono ?_
       rintro e w1 ⟨rfl, rfl⟩
       go_wp2_with fail
       go_at_call 49
       refine (HLN.out _).mono ?_
       rintro e w1 ⟨rfl, rfl⟩
       go_wp2_with fail
       go_ret
       exact ⟨ret_bool (by rw [HB3.out]; try (first | rfl | simp)), X2.out⟩
      ·have HB3 : Hid (R = false) := by show _ = _; rw [HB2.out]; simp [hw]
       have hwb : (W == A - 1) = false := by simp [hw]
       clear HB2 hw
       go_wp2_with fail
       go_at_call 86
       refine (HWD.out _).mono ?_
       rintro e w1 ⟨rfl, rfl⟩
       go_wp2_with fail
       go_ret
       exact ⟨ret_bool (by rw [HB3.out]; try (first | rfl | simp)), X2.out⟩
    | nth k _ a1 a7 g1 g5 =>
      rw [k] at q0
      have HB2 : Hid (R = (decide (W = (c.p 5).a - 1) && decide ((d - 1) / 7 + 1 = (c.p 5).b))) := by show _ = _; rw [HK.out, if_neg (by omega), if_pos k]
      clear k HK
      generalize (c.p 3).k = K3 at *
      generalize (c.p 5).a = A at *
      generalize (c.p 5).b = B at *
      obtain ⟨Q, hQ⟩ : ∃ Q, Q = (d - 1) / 7 := ⟨_, rfl⟩
      have tq : (d - 1).tdiv 7 = Q := by rw [hQ]; exact Int.tdiv_eq_ediv_of_nonneg (by omega)
      have hQ0 : 0 ≤ Q ∧ Q ≤ 10 := by omega
      rw [← hQ] at HB2
      clear hQ
      obtain ⟨hQ0, hQ1⟩ := hQ0
      by_cases hw : W = A - 1
      ·have HB3 : Hid (R = decide (Q + 1 = B)) := by show _ = _; rw [HB2.out]; simp [hw]
       have hwb : (W == A - 1) = true := by simp [hw]
       clear HB2 hw
       go_wp2_with fail
       go_at_call 86
       refine (HWD.out _).mono ?_
       rintro e w1 ⟨rfl, rfl⟩
       go_wp2_with fail
       go_ret
       exact ⟨ret_bool (by rw [HB3.out]; try (first | rfl | simp)), X2.out⟩
      ·have HB3 : Hid (R = false) := by show _ = _; rw [HB2.out]; simp [hw]
       have hwb : (W == A - 1) = false := by simp [hw]
       clear HB2 hw
       go_wp2_with fail
       go_at_call 86
       refine (HWD.out _).mono ?_
       rintro e w1 ⟨rfl, rfl⟩
       go_wp2_with fail
       go_ret
       exact ⟨ret_bool (by rw [HB3.out]; try (first | rfl | simp)), X2.out⟩
    | common j8 j0 _ =>
      have HB2 : Hid (R = (amongB (c.numsAt 3) d && amongB (c.numsAt 5) W)) := by show _ = _; rw [HK.out, if_neg (by omega), if_neg (by omega)]
      have b12 : ((c.p 5).k == 12) = false := by simp; omega
      have b13 : ((c.p 5).k == 13) = false := by simp; omega
      clear HK q1 q2
      generalize (c.p 3).k = K3 at *
      generalize (c.p 5).k = K5 at *
      obtain ⟨x3, c3, r3, l3⟩ := HRW.out _ X2.out 3 (by omega)
      obtain ⟨x5, c5, r5, l5⟩ := HRW.out _ X2.out 5 (by omega)
      have A3 := Lib.hid (sp_among x3 c3 (c.numsAt 3) d (HLE.out 3 (by omega)) wd l3)
      have A5 := Lib.hid (sp_among x5 c5 (c.numsAt 5) W (HLE.out 5 (by omega)) wd l5)
      generalize (c.numsAt 3).length = n3 at *
      generalize (c.numsAt 5).length = n5 at *
      clear l3 l5
      rcases hb3 : amongB (c.numsAt 3) d
      ·rw [hb3] at A3
       have HB3 : Hid (R = false) := by show _ = _; rw [HB2.out, hb3]; rfl
       clear HB2 hb3
       go_wp2_with fail
       go_at_call 86
       refine (HWD.out _).mono ?_
       rintro e w1 ⟨rfl, rfl⟩
       go_wp2_with fail
       go_at_call 69
       refine A3.out.mono ?_
       rintro e w1 ⟨rfl, rfl⟩
       go_wp2_with fail
       go_ret
       exact ⟨ret_bool (by rw [HB3.out]), X2.out⟩
      ·rw [hb3] at A3
       have HB3 : Hid (R = amongB (c.numsAt 5) W) := by show _ = _; rw [HB2.out, hb3]; rfl
       clear HB2 hb3
       generalize amongB (c.numsAt 5) W = r at *
       go_wp2_with fail
       go_at_call 86
       refine (HWD.out _).mono ?_
       rintro e w1 ⟨rfl, rfl⟩
       go_wp2_with fail
       go_at_call 69
       refine A3.out.mono ?_
       rintro e w1 ⟨rfl, rfl⟩
       go_wp2_with fail
       go_at_call 69
       refine A5.out.mono ?_
       rintro e w1 ⟨rfl, rfl⟩
       go_wp2_with fail
       go_ret
       exact ⟨ret_bool (by rw [HB3.out]), X2.out⟩
end Go.Proofs.YtmaffdhcmdhjfaaGreatDoor
namespace Go.Proofs.YtmaffdhcmdhjfaaGreatDoor
open Go.RowKit Go.Lib
structure SFit (c : CronV) (y m d h mi s : Int) : Prop where
 v : Cal.Valid y m d
 y0 : 1970 ≤ y
 y1 : y ≤ 2199
 oy : amongB (c.numsAt 6) y = true
 om : amongB (c.numsAt 4) m = true
 od : c.dayB y m d = true
 h0 : 0 ≤ h
 h1 : h ≤ 23
 mi0 : 0 ≤ mi
 mi1 : mi ≤ 59
 s0 : 0 ≤ s
 s1 : s ≤ 59
 th : amongB (c.numsAt 2) h = true
 tm : amongB (c.numsAt 1) mi = true
 ts : amongB (c.numsAt 0) s = true
def SpecFit (c : CronV) (t : Int) : Prop := ∃ y m d h mi s, SFit c y m d h mi s ∧ t = Csm.secOf (Cal.dayNum y m d) h mi s
structure SInv (c : CronV) (sec y m d f : Int) : Prop where
 y0 : 1970 ≤ y
 y1 : y ≤ 2200
 m0 : 1 ≤ m
 m1 : m ≤ 12
 d0 : 1 ≤ d
 dl : d ≤ Cal.mlen y m
 f0 : 0 ≤ f
 f1 : f < 86400
 gt : sec < Cal.dayNum y m d * 86400 + f
 least : ∀ t, SpecFit c t → sec < t → Cal.dayNum y m d * 86400 + f ≤ t
def NextPost (c : CronV) (sec r : Int) (b : Bool) : Prop :=
 (b = true ∧ SpecFit c r ∧ sec < r ∧ ∀ t, SpecFit c t → sec < t → r ≤ t) ∨ (b = false ∧ r = 0 ∧ ∀ t, SpecFit c t → t ≤ sec)
theorem sec_eq (N h mi s : Int) : Csm.secOf N h mi s = N * 86400 + (h * 3600 + mi * 60 + s) := by unfold Csm.secOf; omega
theorem SInv.day {c : CronV} {sec y m d f : Int} (h : SInv c sec y m d f) {y' m' d' hh mi s : Int} (k : SFit c y' m' d' hh mi s) (hs : sec < Csm.secOf (Cal.dayNum y' m' d') hh mi s) :
 Cal.dayNum y m d * 86400 + f ≤ Cal.dayNum y' m' d' * 86400 + (hh * 3600 + mi * 60 + s) ∧ Cal.dayNum y m d ≤ Cal.dayNum y' m' d' ∧ 0 ≤ hh * 3600 + mi * 60 + s ∧ hh * 3600 + mi * 60 + s < 86400 := by
 have := h.least _ ⟨y', m', d', hh, mi, s, k, rfl⟩ hs
 rw [sec_eq] at this
 have := k.h0; have := k.h1; have := k.mi0; have := k.mi1; have := k.s0; have := k.s1
 have := h.f0
 omega
theorem not_before {y m d y' m' d' : Int} (v : Cal.Valid y m d) (v' : Cal.Valid y' m' d') (h : Cal.dayNum y m d ≤ Cal.dayNum y' m' d') : y < y' ∨ (y = y' ∧ (m < m' ∨ (m = m' ∧ d ≤ d'))) := by
 rcases Int.lt_trichotomy y y' with h1 | h1 | h1
 ·exact .inl h1
 ·subst h1
  rcases Int.lt_trichotomy m m' with h2 | h2 | h2
  ·exact .inr ⟨rfl, .inl h2⟩
  ·subst h2
   rcases Int.lt_or_le d' d with h3 | h3
   ·have := Cal.lex_lt v' v (.inr ⟨rfl, .inr ⟨rfl, h3⟩⟩); omega
   ·exact .inr ⟨rfl, .inr ⟨rfl, h3⟩⟩
  ·have := Cal.lex_lt v' v (.inr ⟨rfl, .inl h2⟩); omega
 ·have := Cal.lex_lt v' v (.inl h1); omega
theorem first_le {y m d y' : Int} (v : Cal.Valid y m d) (h : y' ≤ y) : Cal.dayNum y' 1 1 ≤ Cal.dayNum y m d := by
 have h1 := Cal.from_first y m d
 have h2 := Cal.year_first (y := y) v.m1 v.m12
 have h3 := Cal.year_mono y' (y - y').toNat
 have e : y' + ((y - y').toNat : Int) = y := by omega
 rw [e] at h3
 have := v.d1
 omega
theorem SInv.year {c : CronV} {sec y m d f : Int} (h : SInv c sec y m d f) (hy : y ≤ 2199)
 (hno : ∀ y' m' d' hh mi s, SFit c y' m' d' hh mi s → sec < Csm.secOf (Cal.dayNum y' m' d') hh mi s → y ≠ y') : SInv c sec (y + 1) 1 1 0 := by
 have v : Cal.Valid y m d := ⟨h.m0, h.m1, h.d0, h.dl⟩
 have hlt := Cal.in_year v (by omega : y < y + 1)
 have g := h.gt
 have f1 := h.f1
 refine ⟨by have := h.y0; omega, by omega, by omega, by omega, by omega, by unfold Cal.mlen; simp, by omega, by omega, by omega, ?_⟩
 rintro t ⟨y', m', d', hh, mi, s, k, rfl⟩ ht
 obtain ⟨_, h2, h3, _⟩ := h.day k ht
 have hne := hno _ _ _ _ _ _ k ht
 have hnb := not_before v k.v h2
 have : Cal.dayNum (y + 1) 1 1 ≤ Cal.dayNum y' m' d' := first_le k.v (by omega)
 rw [sec_eq]
 omega
theorem SInv.month {c : CronV} {sec y m d f : Int} (h : SInv c sec y m d f) (hy : y ≤ 2199)
 (hno : ∀ y' m' d' hh mi s, SFit c y' m' d' hh mi s → sec < Csm.secOf (Cal.dayNum y' m' d') hh mi s → ¬ (y = y' ∧ m = m')) :
 (m + 1 ≤ 12 → SInv c sec y (m + 1) 1 0) ∧ (12 < m + 1 → SInv c sec (y + 1) 1 1 0) := by
 have v : Cal.Valid y m d := ⟨h.m0, h.m1, h.d0, h.dl⟩
 have g := h.gt
 have f1 := h.f1
 refine ⟨fun hm => ?_, fun hm => ?_⟩
 ·have hlt := Cal.in_month v (by omega : m < m + 1) hm
  have hb := Cal.mlen_bd y (m + 1)
  refine ⟨h.y0, h.y1, by have := h.m0; omega, hm, by omega, by omega, by omega, by omega, by omega, ?_⟩
  rintro t ⟨y', m', d', hh, mi, s, k, rfl⟩ ht
  obtain ⟨_, h2, h3, _⟩ := h.day k ht
  have hne := hno _ _ _ _ _ _ k ht
  have hnb := not_before v k.v h2
  have : Cal.dayNum y (m + 1) 1 ≤ Cal.dayNum y' m' d' := by
   rcases hnb with h1 | ⟨rfl, h1 | ⟨rfl, h1⟩⟩
   ·have v1 : Cal.Valid y (m + 1) 1 := ⟨by have := h.m0; omega, hm, by omega, by omega⟩
    have := Cal.lex_lt v1 k.v (.inl h1); omega
   ·have e1 := Cal.from_first y m' d'
    have e2 := Cal.month_mono y (m + 1) (by have := h.m0; omega) (m' - (m + 1)).toNat (by have := k.v.m12; omega)
    have e3 : m + 1 + ((m' - (m + 1)).toNat : Int) = m' := by omega
    rw [e3] at e2
    have := k.v.d1
    omega
   ·exact absurd ⟨rfl, rfl⟩ hne
  rw [sec_eq]
  omega
 ·refine h.year hy ?_
  rintro y' m' d' hh mi s k ht rfl
  obtain ⟨_, h2, _, _⟩ := h.day k ht
  have hnb := not_before v k.v h2
  have := k.v.m12
  exact hno _ _ _ _ _ _ k ht ⟨rfl, by omega⟩
theorem SInv.next {c : CronV} {sec y m d f : Int} (h : SInv c sec y m d f) (hy : y ≤ 2199)
 (hno : ∀ hh mi s, SFit c y m d hh mi s → f ≤ hh * 3600 + mi * 60 + s → False) :
 (d + 1 ≤ Cal.mlen y m → SInv c sec y m (d + 1) 0) ∧ (Cal.mlen y m < d + 1 → m + 1 ≤ 12 → SInv c sec y (m + 1) 1 0) ∧ (Cal.mlen y m < d + 1 → 12 < m + 1 → SInv c sec (y + 1) 1 1 0) := by
 have v : Cal.Valid y m d := ⟨h.m0, h.m1, h.d0, h.dl⟩
 have g := h.gt
 have f1 := h.f1
 have key : ∀ y' m' d' hh mi s, SFit c y' m' d' hh mi s → sec < Csm.secOf (Cal.dayNum y' m' d') hh mi s → Cal.dayNum y m d + 1 ≤ Cal.dayNum y' m' d' := by
  intro y' m' d' hh mi s k ht
  obtain ⟨h1, h2, h3, _⟩ := h.day k ht
  rcases Int.lt_or_le (Cal.dayNum y m d) (Cal.dayNum y' m' d') with hl | hl
  ·omega
  ·exfalso
   obtain ⟨rfl, rfl, rfl⟩ := Csm.day_unique v k.v (by omega)
   exact hno hh mi s k (by omega)
 refine ⟨fun hd => ?_, ?_⟩
 ·have e := Cal.dayNum_add y m d 1
  refine ⟨h.y0, h.y1, h.m0, h.m1, by have := h.d0; omega, hd, by omega, by omega, by omega, ?_⟩
  rintro t ⟨y', m', d', hh, mi, s, k, rfl⟩ ht
  have := key _ _ _ _ _ _ k ht
  obtain ⟨_, _, h3, _⟩ := h.day k ht
  rw [sec_eq]
  omega
 ·have hmo : Cal.mlen y m < d + 1 → _ := fun hd => h.month hy (fun y' m' d' hh mi s k ht => by
   rintro ⟨rfl, rfl⟩
   have h1 := key _ _ _ _ _ _ k ht
   have e1 := Cal.from_first y m d
   have e2 := Cal.from_first y m d'
   have := k.v.dl
   omega)
  exact ⟨fun hd hm => (hmo hd).1 hm, fun hd hm => (hmo hd).2 hm⟩
theorem SInv.found {c : CronV} {sec y m d f r : Int} (h : SInv c sec y m d f) (hy : y ≤ 2199) (oy : amongB (c.numsAt 6) y = true) (om : amongB (c.numsAt 4) m = true) (od : c.dayB y m d = true)
 {hh mi s : Int} (tf : TFit c.numsAt hh mi s) (hr : r = hh * 3600 + mi * 60 + s) (hf : f ≤ r) (hl : ∀ h' m' s', TFit c.numsAt h' m' s' → f ≤ h' * 3600 + m' * 60 + s' → r ≤ h' * 3600 + m' * 60 + s') :
 NextPost c sec (Cal.dayNum y m d * 86400 + r) true := by
 have v : Cal.Valid y m d := ⟨h.m0, h.m1, h.d0, h.dl⟩
 have g := h.gt
 have := tf.h0; have := tf.h1; have := tf.m0; have := tf.m1; have := tf.s0; have := tf.s1
 refine .inl ⟨rfl, ⟨y, m, d, hh, mi, s, ⟨v, h.y0, hy, oy, om, od, tf.h0, tf.h1, tf.m0, tf.m1, tf.s0, tf.s1, tf.th, tf.tm, tf.ts⟩, by rw [sec_eq, hr]⟩, by omega, ?_⟩
 rintro t ⟨y', m', d', h', mi', s', k, rfl⟩ ht
 obtain ⟨h1, h2, h3, h4⟩ := h.day k ht
 rw [sec_eq]
 rcases Int.lt_or_le (Cal.dayNum y m d) (Cal.dayNum y' m' d') with hlt | hle
 ·omega
 ·have e : Cal.dayNum y m d = Cal.dayNum y' m' d' := by omega
  have := hl h' mi' s' ⟨k.h0, k.h1, k.mi0, k.mi1, k.s0, k.s1, k.th, k.tm, k.ts⟩ (by omega)
  omega
theorem SInv.none {c : CronV} {sec y m d f : Int} (h : SInv c sec y m d f) (hy : 2199 < y) : NextPost c sec 0 false := by
 refine .inr ⟨rfl, rfl, ?_⟩
 rintro t ⟨y', m', d', h', mi', s', k, rfl⟩
 rcases Int.lt_or_le sec (Csm.secOf (Cal.dayNum y' m' d') h' mi' s') with ht | ht
 ·obtain ⟨_, h2, _, _⟩ := h.day k ht
  have := not_before ⟨h.m0, h.m1, h.d0, h.dl⟩ k.v h2
  have := k.y1
  omega
 ·exact ht
theorem SInv.start {c : CronV} {sec : Int} (s0 : 0 ≤ sec) (s1 : sec ≤ 7258300000) : SInv c sec (Cal.civil ((sec + 1) / 86400)).1 (Cal.civil ((sec + 1) / 86400)).2.1 (Cal.civil ((sec + 1) / 86400)).2.2 ((sec + 1) % 86400) := by
 obtain ⟨y, m, d, e, v, hN, y0⟩ := Cal.civil_valid (n := (sec + 1) / 86400) (by omega)
 rw [e]
 refine ⟨y0, ?_, v.m1, v.m12, v.d1, v.dl, by omega, by omega, by simp only; omega, fun t _ ht => by simp only; omega⟩
 rcases Int.lt_or_le 2200 y with h | h
 ·have h1 := first_le (y' := 2201) v (by omega)
  have e1 : Cal.dayNum 2201 1 1 = 84371 := by decide
  omega
 ·exact h
end Go.Proofs.YtmaffdhcmdhjfaaGreatDoor
namespace Go.Proofs.YtmaffdhcmdhjfaaGreatDoor
open Go.RowKit Go.Lib
attribute [local go_sem ↓] execOp_loadCron
theorem rows_of {W : World} {base : Nat} {v : Value} {c : CronV} (h : IntRows W base v (c.nums 7)) : ∃ g cap, v = .slice (some ⟨g, 0, none⟩) 7 cap ∧ RowsAt W g c.numsAt := by
 obtain ⟨g, cap, hv, hrow⟩ := h.form (by simp [CronV.nums])
 have h7 : (c.nums 7).length = 7 := by simp [CronV.nums]
 rw [h7] at hv
 exact ⟨g, cap, hv, fun i hi => hrow i _ (by simp [CronV.nums, hi])⟩
def meas (y m d : Int) : Nat := ((2200 - y) * 400 + (12 - m) * 31 + (31 - d)).toNat
set_option maxHeartbeats 12800000 in
set_option maxRecDepth 1000000 in
theorem sp_nextsecond (c : CronV) (hr : RightIs c) (sec : Int) (s0 : 0 ≤ sec) (s1 : sec ≤ 7258300000) (w : World) (hI : CronItems w c) :
 Calls Tryz.prog 52 #[.agg c.cells, .int .i64 sec] w fun e w' => ∃ r b, e = .returned (.tuple #[.int .i64 r, .bool b]) ∧ NextPost c sec r b ∧ Ext w w' := by
 have HC : Hid (CronAt (w.alloc (.cells c.cells 27)) w.heap.size c) := cron_alloc w c
 have HX : Hid (Ext w (w.alloc (.cells c.cells 27))) := Ext.alloc _ _
 have hcw := HC.out.whole
 have hall := hr.all
 have HNUM : Hid (∀ W, Ext w W → Calls Tryz.prog 19 #[.agg c.cells] W (RowsPost W (c.nums 7))) := fun W hW => numbers_cron c ⟨fun j hj => all_right hall j hj⟩ W (hI.ext hW)
 have HLE : Hid (∀ i, i < 7 → (c.numsAt i).length ≤ 100000000) := fun i hi => numsAt_len hall i hi
 have HR3 := Lib.hid (all_right hall 3 (by decide))
 have HR5 := Lib.hid (all_right hall 5 (by decide))
 have HST := Lib.hid (SInv.start (c := c) s0 s1)
 obtain ⟨N, hN⟩ : ∃ N, N = (sec + 1) / 86400 := ⟨_, rfl⟩
 obtain ⟨F, hF⟩ : ∃ F, F = (sec + 1) % 86400 := ⟨_, rfl⟩
 have tN : (sec + 1).tdiv 86400 = N := by rw [hN]; exact Int.tdiv_eq_ediv_of_nonneg (by omega)
 have tF : (sec + 1).tmod 86400 = F := by rw [hF]; exact Int.tmod_eq_emod_of_nonneg (by omega)
 have hNb : 0 ≤ N ∧ N ≤ 90000 := by omega
 have hFb : 0 ≤ F ∧ F ≤ 86399 := by omega
 rw [← hN, ← hF] at HST
 have HD : Hid (∀ W : World, Calls Tryz.prog 47 #[.int .i64 N] W fun e w' => e = .returned (.tuple #[.int .i64 (Cal.civil N).1, .int .i64 (Cal.civil N).2.1, .int .i64 (Cal.civil N).2.2]) ∧ W = w') := fun W => sp_date N hNb.1 (by omega) W
 generalize (Cal.civil N).1 = yy at *
 generalize (Cal.civil N).2.1 = mm at *
 generalize (Cal.civil N).2.2 = dd at *
 clear hN hF hI hr hall
 obtain ⟨N0, N1⟩ := hNb
 obtain ⟨F0, F1⟩ := hFb
 go_enter Tryz.func52, Tryz.ntmps52
 go_wp2_with fail
 go_at_call 19
 refine (HNUM.out _ HX.out).mono ?_
 rintro e w1 ⟨v1, rfl, hI1, x1⟩
 have C1 := Lib.hid (HC.out.ext x1)
 have X1 := Lib.hid (HX.out.trans x1)
 obtain ⟨g, cap, rfl, hrw⟩ := rows_of hI1
 have HRW := Lib.hid hrw
 clear hI1 x1 hrw hcw
 go_wp2_with fail
 go_at_call 47
 refine (HD.out _).mono ?_
 rintro e w2 ⟨rfl, rfl⟩
 obtain ⟨wb, rfl⟩ : ∃ wb : World, wb = w1 := ⟨_, rfl⟩
 go_wp2_with fail
 go_loopw [8, 9, 10, 11] (fun f y m d wr => ∃ F Y M D : Int, f = .int .i64 F ∧ y = .int .i64 Y ∧ m = .int .i64 M ∧ d = .int .i64 D ∧ Hid (SInv c sec Y M D F) ∧ Hid (Ext wb wr))
  (fun _ y m d _ => meas (RowKit.intOf y) (RowKit.intOf m) (RowKit.intOf d))
 case atStart => exact ⟨F, yy, mm, dd, rfl, rfl, rfl, rfl, HST.out, Ext.refl _⟩
 case round =>
  clear tN tF
  obtain ⟨f, y, m, d, rfl, rfl, rfl, rfl, HI, Hx⟩ := hrel
  have y0 := HI.out.y0
  have y1 := HI.out.y1
  have m0 := HI.out.m0
  have m1 := HI.out.m1
  have d0 := HI.out.d0
  have hdl := HI.out.dl
  have hml := Cal.mlen_bd y m
  have d1 : d ≤ 31 := by omega
  have f0 := HI.out.f0
  have f1 := HI.out.f1
  have HMS : Hid (meas (RowKit.intOf (.int .i64 y)) (RowKit.intOf (.int .i64 m)) (RowKit.intOf (.int .i64 d)) = ((2200 - y) * 400 + (12 - m) * 31 + (31 - d)).toNat) := rfl
  by_cases hy : y ≤ 2199
  ·have RW := HRW.out.ext Hx.out
   obtain ⟨x6, c6, r6, l6⟩ := RW 6 (by omega)
   obtain ⟨x4, c4, r4, l4⟩ := RW 4 (by omega)
   have A6 := Lib.hid (sp_among x6 c6 (c.numsAt 6) y (HLE.out 6 (by omega)) wr l6)
   have A4 := Lib.hid (sp_among x4 c4 (c.numsAt 4) m (HLE.out 4 (by omega)) wr l4)
   have HRWr := Lib.hid RW
   have CA := Lib.hid (C1.out.ext Hx.out)
   have hcw := CA.out.whole
   generalize hn6 : (c.numsAt 6).length = n6 at *
   generalize hn4 : (c.numsAt 4).length = n4 at *
   clear l6 l4 RW hn6 hn4
   rcases ha6 : amongB (c.numsAt 6) y
   ·rw [ha6] at A6
    have HNX := Lib.hid (HI.out.year hy (fun y' m' d' hh mi s k _ e => by have := k.oy; rw [← e, ha6] at this; cases this))
    clear ha6 hcw
    go_wp2_with fail
    go_at_call 69
    refine A6.out.mono ?_
    rintro e w3 ⟨rfl, rfl⟩
    go_wp2_with fail
    exact ⟨⟨0, y + 1, 1, 1, rfl, rfl, rfl, rfl, HNX.out, Hx.out⟩, by rw [HMS.out]; simp only [RowKit.intOf, meas]; omega⟩
   ·rw [ha6] at A6
    have HA6 := Lib.hid ha6
    clear ha6
    rcases ha4 : amongB (c.numsAt 4) m
    ·rw [ha4] at A4
     obtain ⟨q1, q2⟩ := HI.out.month hy (fun y' m' d' hh mi s k _ e => by have := k.om; rw [← e.2, ha4] at this; cases this)
     have Q1 := Lib.hid q1
     have Q2 := Lib.hid q2
     clear ha4 hcw q1 q2
     by_cases h12 : 12 < m + 1
     ·have HNX := Lib.hid (Q2.out h12)
      go_wp2_with fail
      go_at_call 69
      refine A6.out.mono ?_
      rintro e w3 ⟨rfl, rfl⟩
      go_wp2_with fail
      go_at_call 69
      refine A4.out.mono ?_
      rintro e w3 ⟨rfl, rfl⟩
      go_wp2_with fail
      exact ⟨⟨0, y + 1, 1, 1, rfl, rfl, rfl, rfl, HNX.out, Hx.out⟩, by rw [HMS.out]; simp only [RowKit.intOf, meas]; omega⟩
     ·have HNX := Lib.hid (Q1.out (by omega))
      go_wp2_with fail
      go_at_call 69
      refine A6.out.mono ?_
      rintro e w3 ⟨rfl, rfl⟩
      go_wp2_with fail
      go_at_call 69
      refine A4.out.mono ?_
      rintro e w3 ⟨rfl, rfl⟩
      go_wp2_with fail
      exact ⟨⟨0, y, m + 1, 1, rfl, rfl, rfl, rfl, HNX.out, Hx.out⟩, by rw [HMS.out]; simp only [RowKit.intOf, meas]; omega⟩
    ·rw [ha4] at A4
     have HA4 := Lib.hid ha4
     clear ha4
     have HDF := Lib.hid (sp_dayfits c HR3.out HR5.out g cap HLE.out y m d y0 (by omega) m0 m1 d0 (by omega) wr HRWr.out)
     have HLN : Hid (∀ W : World, Calls Tryz.prog 49 #[.int .i64 y, .int .i64 m] W fun e w' => e = .returned (.int .i64 (Cal.mlen y m)) ∧ W = w') := fun W => sp_length y m (by omega) (by omega) W
     rcases hb : c.dayB y m d
     ·rw [hb] at HDF
      have HDB := Lib.hid hb
      clear hb
      obtain ⟨q1, q2, q3⟩ := HI.out.next hy (fun hh mi s k _ => by have := k.od; rw [HDB.out] at this; cases this)
      have Q1 := Lib.hid q1
      have Q2 := Lib.hid q2
      have Q3 := Lib.hid q3
      clear q1 q2 q3
      generalize Cal.mlen y m = L at *
      by_cases hdl2 : d + 1 ≤ L
      ·have HNX := Lib.hid (Q1.out hdl2)
       go_wp2_with fail
       go_at_call 69
       refine A6.out.mono ?_
       rintro e w3 ⟨rfl, rfl⟩
       go_wp2_with fail
       go_at_call 69
       refine A4.out.mono ?_
       rintro e w3 ⟨rfl, rfl⟩
       go_wp2_with fail
       go_at_call 70
       refine HDF.out.mono ?_
       rintro e w4 ⟨rfl, x4⟩
       have X4 := Lib.hid (Hx.out.trans x4)
       have RW4 := Lib.hid (HRWr.out.ext x4)
       clear x4 hcw
       go_wp2_with fail
       go_at_call 49
       refine (HLN.out _).mono ?_
       rintro e w5 ⟨rfl, rfl⟩
       go_wp2_with fail
       exact ⟨⟨0, y, m, d + 1, rfl, rfl, rfl, rfl, HNX.out, X4.out⟩, by rw [HMS.out]; simp only [RowKit.intOf, meas]; omega⟩
      ·by_cases h12 : 12 < m + 1
       ·have HNX := Lib.hid (Q3.out (by omega) h12)
        go_wp2_with fail
        go_at_call 69
        refine A6.out.mono ?_
        rintro e w3 ⟨rfl, rfl⟩
        go_wp2_with fail
        go_at_call 69
        refine A4.out.mono ?_
        rintro e w3 ⟨rfl, rfl⟩
        go_wp2_with fail
        go_at_call 70
        refine HDF.out.mono ?_
        rintro e w4 ⟨rfl, x4⟩
        have X4 := Lib.hid (Hx.out.trans x4)
        have RW4 := Lib.hid (HRWr.out.ext x4)
        clear x4 hcw
        go_wp2_with fail
        go_at_call 49
        refine (HLN.out _).mono ?_
        rintro e w5 ⟨rfl, rfl⟩
        go_wp2_with fail
        exact ⟨⟨0, y + 1, 1, 1, rfl, rfl, rfl, rfl, HNX.out, X4.out⟩, by rw [HMS.out]; simp only [RowKit.intOf, meas]; omega⟩
       ·have HNX := Lib.hid (Q2.out (by omega) (by omega))
        go_wp2_with fail
        go_at_call 69
        refine A6.out.mono ?_
        rintro e w3 ⟨rfl, rfl⟩
        go_wp2_with fail
        go_at_call 69
        refine A4.out.mono ?_
        rintro e w3 ⟨rfl, rfl⟩
        go_wp2_with fail
        go_at_call 70
        refine HDF.out.mono ?_
        rintro e w4 ⟨rfl, x4⟩
        have X4 := Lib.hid (Hx.out.trans x4)
        have RW4 := Lib.hid (HRWr.out.ext x4)
        clear x4 hcw
        go_wp2_with fail
        go_at_call 49
        refine (HLN.out _).mono ?_
        rintro e w5 ⟨rfl, rfl⟩
        go_wp2_with fail
        exact ⟨⟨0, y, m + 1, 1, rfl, rfl, rfl, rfl, HNX.out, X4.out⟩, by rw [HMS.out]; simp only [RowKit.intOf, meas]; omega⟩
     ·rw [hb] at HDF
      have HDB := Lib.hid hb
      clear hb
      have HDT : Hid (∀ W, RowsAt W g c.numsAt → Calls Tryz.prog 71 #[.slice (some ⟨g, 0, none⟩) 7 cap, .int .i64 f] W fun e w' => ∃ r, e = .returned (.int .i64 r) ∧ TimePost c.numsAt f r ∧ W = w') := fun W hW => sp_daytime g cap c.numsAt f f0 (by omega) HLE.out W hW
      have HDN : Hid (∀ W : World, Calls Tryz.prog 72 #[.int .i64 y, .int .i64 m, .int .i64 d] W fun e w' => e = .returned (.int .i64 (Cal.dayNum y m d)) ∧ W = w') := fun W => sp_days y m d y0 (by omega) m0 m1 (by omega) (by omega) W
      go_wp2_with fail
      go_at_call 69
      refine A6.out.mono ?_
      rintro e w3 ⟨rfl, rfl⟩
      go_wp2_with fail
      go_at_call 69
      refine A4.out.mono ?_
      rintro e w3 ⟨rfl, rfl⟩
      go_wp2_with fail
      go_at_call 70
      refine HDF.out.mono ?_
      rintro e w4 ⟨rfl, x4⟩
      have X4 := Lib.hid (Hx.out.trans x4)
      have RW4 := Lib.hid (HRWr.out.ext x4)
      clear x4 hcw
      go_wp2_with fail
      go_at_call 71
      refine (HDT.out _ RW4.out).mono ?_
      rintro e w5 ⟨r, rfl, hpost, rfl⟩
      rcases hpost with ⟨hr, hno⟩ | ⟨hh, mi, s, tf, hr, hfr, hmin⟩
      ·subst hr
       have HNO := Lib.hid hno
       clear hno
       obtain ⟨q1, q2, q3⟩ := HI.out.next hy (fun hh mi s k hle => by have := HNO.out hh mi s ⟨k.h0, k.h1, k.mi0, k.mi1, k.s0, k.s1, k.th, k.tm, k.ts⟩; omega)
       have Q1 := Lib.hid q1
       have Q2 := Lib.hid q2
       have Q3 := Lib.hid q3
       clear q1 q2 q3
       generalize Cal.mlen y m = L at *
       by_cases hdl2 : d + 1 ≤ L
       ·have HNX := Lib.hid (Q1.out hdl2)
        go_wp2_with fail
        go_at_call 49
        refine (HLN.out _).mono ?_
        rintro e w5 ⟨rfl, rfl⟩
        go_wp2_with fail
        exact ⟨⟨0, y, m, d + 1, rfl, rfl, rfl, rfl, HNX.out, X4.out⟩, by rw [HMS.out]; simp only [RowKit.intOf, meas]; omega⟩
       ·by_cases h12 : 12 < m + 1
        ·have HNX := Lib.hid (Q3.out (by omega) h12)
         go_wp2_with fail
         go_at_call 49
         refine (HLN.out _).mono ?_
         rintro e w5 ⟨rfl, rfl⟩
         go_wp2_with fail
         exact ⟨⟨0, y + 1, 1, 1, rfl, rfl, rfl, rfl, HNX.out, X4.out⟩, by rw [HMS.out]; simp only [RowKit.intOf, meas]; omega⟩
        ·have HNX := Lib.hid (Q2.out (by omega) (by omega))
         go_wp2_with fail
         go_at_call 49
         refine (HLN.out _).mono ?_
         rintro e w5 ⟨rfl, rfl⟩
         go_wp2_with fail
         exact ⟨⟨0, y, m + 1, 1, rfl, rfl, rfl, rfl, HNX.out, X4.out⟩, by rw [HMS.out]; simp only [RowKit.intOf, meas]; omega⟩
      ·have HF := Lib.hid (HI.out.found hy HA6.out HA4.out HDB.out tf hr hfr hmin)
       have hrb : 0 ≤ r ∧ r ≤ 86400 := by
        have := tf.h0; have := tf.h1; have := tf.m0; have := tf.m1; have := tf.s0; have := tf.s1
        omega
       have hnb := dayNum_bd (d := d) y0 (by omega : y ≤ 2300) m0 (by omega : m ≤ 13) (by omega) (by omega)
       clear hr hmin tf hfr
       generalize Cal.dayNum y m d = K at *
       obtain ⟨rb0, rb1⟩ := hrb
       obtain ⟨nb0, nb1⟩ := hnb
       go_wp2_with fail
       go_at_call 72
       refine (HDN.out _).mono ?_
       rintro e w5 ⟨rfl, rfl⟩
       go_wp2_with fail
       refine bodyPost_ret (v := .tuple #[.int .i64 (K * 86400 + r), .bool true]) (by simp [results, Tryz.results52, go_sem]) rfl ⟨_, _, rfl, HF.out, X1.out.trans X4.out⟩
  ·have HF := Lib.hid (HI.out.none (by omega))
   go_wp2_with fail
   refine bodyPost_ret (v := .tuple #[.int .i64 0, .bool false]) (by simp [results, Tryz.results52, go_sem]) rfl (by first | exact ⟨_, _, rfl, HF.out, X1.out.trans Hx.out⟩ | exact ⟨_, .inl ⟨rfl, HF.out, X1.out.trans Hx.out⟩⟩)
end Go.Proofs.YtmaffdhcmdhjfaaGreatDoor
namespace Go.Proofs.YtmaffdhcmdhjfaaGreatDoor
open Go.RowKit Go.Lib
attribute [local go_sem ↓] execOp_loadCron
def secAt (n prev : Int) : Int := prev / 1000000000 + n * 60
set_option maxHeartbeats 1600000 in
set_option maxRecDepth 1000000 in
theorem sp_second (prev n : Int) (p0 : 0 ≤ prev) (p1 : prev ≤ 8000000000000000000) (n0 : -1440 ≤ n) (n1 : n ≤ 1440) (w : World) :
 Calls Tryz.prog 48 #[.int .i64 prev, .int .i64 n] w fun e w' => e = .returned (.int .i64 (secAt n prev)) ∧ w = w' := by
 obtain ⟨q, hq⟩ : ∃ q, q = prev / 1000000000 := ⟨_, rfl⟩
 have tq : prev.tdiv 1000000000 = q := by rw [hq]; exact Int.tdiv_eq_ediv_of_nonneg p0
 have hR : Hid (secAt n prev = q + n * 60) := by show _ = _; unfold secAt; rw [hq]
 have hqb : 0 ≤ q ∧ q ≤ 8000000000 := by omega
 generalize secAt n prev = R at *
 obtain ⟨q0, q1⟩ := hqb
 clear hq p0 p1
 go_enter Tryz.func48, Tryz.ntmps48
 go_wp2_with fail
 go_ret
 refine ⟨?_, rfl⟩
 show Ending.returned (.int .i64 (q + n * 60)) = _
 rw [hR.out]
set_option maxHeartbeats 1600000 in
set_option maxRecDepth 1000000 in
theorem sp_instant (t n : Int) (t0 : -100000 ≤ t) (t1 : t ≤ 7258400000) (n0 : -1440 ≤ n) (n1 : n ≤ 1440) (w : World) :
 Calls Tryz.prog 53 #[.int .i64 t, .int .i64 n] w fun e w' => e = .returned (.int .i64 ((t - n * 60) * 1000000000)) ∧ w = w' := by
 have e1 : IntKind.i64.wrap ((t - n * 60) * 1000000000) = (t - n * 60) * 1000000000 := IntWalk.i64_in _ (by omega)
 go_enter Tryz.func53, Tryz.ntmps53
 go_wp2_with fail
 go_ret
 refine ⟨?_, rfl⟩
 first | rfl | (show Ending.returned _ = _; simp)
def InstPost (c : CronV) (n prev : Int) (e : Ending) : Prop :=
 (∃ t, NextPost c (secAt n prev) t true ∧ e = .returned (.tuple #[.int .i64 ((t - n * 60) * 1000000000), .bool true])) ∨
 (NextPost c (secAt n prev) 0 false ∧ e = .returned (.tuple #[.int .i64 0, .bool false]))
theorem fit_bd {c : CronV} {t : Int} (h : SpecFit c t) : 0 ≤ t ∧ t ≤ 7258300000 := by
 obtain ⟨y, m, d, hh, mi, s, k, rfl⟩ := h
 rw [sec_eq]
 have := k.h0; have := k.h1; have := k.mi0; have := k.mi1; have := k.s0; have := k.s1
 have h1 := first_le (y' := 1970) k.v k.y0
 have h2 := Cal.in_year k.v (by have := k.y1; omega : y < 2200)
 have e0 : Cal.dayNum 1970 1 1 = 0 := by decide
 have e1 : Cal.dayNum 2200 1 1 = 84006 := by decide
 omega
theorem next_ex (c : CronV) (sec : Int) : ∃ p : Int × Bool, NextPost c sec p.1 p.2 := by
 by_cases h : ∃ t, SpecFit c t ∧ sec < t
 ·have key : ∀ k : Nat, SpecFit c k → sec < k → ∃ p : Int × Bool, NextPost c sec p.1 p.2 := by
   intro k
   induction k using Nat.strongRecOn with
   | _ k ih =>
     intro h1 h2
     by_cases hs : ∃ j : Nat, j < k ∧ SpecFit c j ∧ sec < j
     ·obtain ⟨j, hj, h3, h4⟩ := hs
      exact ih j hj h3 h4
     ·refine ⟨((k : Int), true), .inl ⟨rfl, h1, h2, fun t ht hlt => ?_⟩⟩
      have hb := fit_bd ht
      rcases Int.lt_or_le t k with hl | hl
      ·exfalso
       refine hs ⟨t.toNat, by omega, ?_, by omega⟩
       have e : ((t.toNat : Nat) : Int) = t := by omega
       rw [e]; exact ht
      ·exact hl
  obtain ⟨t, h1, h2⟩ := h
  have hb := fit_bd h1
  have e : ((t.toNat : Nat) : Int) = t := by omega
  exact key t.toNat (by rw [e]; exact h1) (by rw [e]; exact h2)
 ·refine ⟨(0, false), .inr ⟨rfl, rfl, fun t ht => ?_⟩⟩
  rcases Int.lt_or_le sec t with hl | hl
  ·exact absurd ⟨t, ht, hl⟩ h
  ·exact hl
noncomputable def nextR (c : CronV) (sec : Int) : Int × Bool := Classical.choose (next_ex c sec)
theorem nextR_post (c : CronV) (sec : Int) : NextPost c sec (nextR c sec).1 (nextR c sec).2 := Classical.choose_spec (next_ex c sec)
theorem nextR_eq {c : CronV} {sec r : Int} {b : Bool} (h : NextPost c sec r b) : nextR c sec = (r, b) := by
 have k := nextR_post c sec
 rcases hx : nextR c sec with ⟨r', b'⟩
 rw [hx] at k
 rcases h with ⟨rfl, f, g, l⟩ | ⟨rfl, rfl, l⟩
 ·rcases k with ⟨e, f', g', l'⟩ | ⟨_, _, l'⟩
  ·simp only at e f' g' l'
   have := l _ f' g'
   have := l' _ f g
   rw [e, show r' = r by omega]
  ·have := l' _ f; omega
 ·rcases k with ⟨_, f', g', _⟩ | ⟨e, e', _⟩
  ·have := l _ f'; simp only at g'; omega
  ·simp only at e e'; rw [e, e']
set_option maxHeartbeats 3200000 in
set_option maxRecDepth 1000000 in
theorem sp_nextinstant (c : CronV) (hr : RightIs c) (n prev : Int) (n0 : -1440 ≤ n) (n1 : n ≤ 1440) (p0 : 31536000000000000 ≤ prev) (p1 : prev ≤ 7258118399999999999) (w : World) (hI : CronItems w c) :
 Calls Tryz.prog 26 #[.agg c.cells, .int .i64 n, .int .i64 prev] w fun e w' => InstPost c n prev e ∧ Ext w w' := by
 have HC : Hid (CronAt (w.alloc (.cells c.cells 27)) w.heap.size c) := cron_alloc w c
 have HX : Hid (Ext w (w.alloc (.cells c.cells 27))) := Ext.alloc _ _
 have hsb : 0 ≤ secAt n prev ∧ secAt n prev ≤ 7258300000 := by unfold secAt; omega
 have HS : Hid (∀ W : World, Ext (w.alloc (.cells c.cells 27)) W → Calls Tryz.prog 48 #[.int .i64 prev, .int .i64 n] W fun e w' => e = .returned (.int .i64 (secAt n prev)) ∧ Ext (w.alloc (.cells c.cells 27)) w') := fun W x => (sp_second prev n (by omega) (by omega) n0 n1 W).mono fun e w2 h => ⟨h.1, h.2 ▸ x⟩
 have HN : Hid (∀ W, Ext (w.alloc (.cells c.cells 27)) W → Calls Tryz.prog 52 #[.agg c.cells, .int .i64 (secAt n prev)] W fun e w' => e = .returned (.tuple #[.int .i64 (nextR c (secAt n prev)).1, .bool (nextR c (secAt n prev)).2]) ∧ Ext (w.alloc (.cells c.cells 27)) w') := fun W x => by
  refine (sp_nextsecond c hr (secAt n prev) hsb.1 hsb.2 W (hI.ext (HX.out.trans x))).mono ?_
  rintro e w2 ⟨r, b, rfl, hp, x2⟩
  rw [nextR_eq hp]
  exact ⟨rfl, x.trans x2⟩
 have HI : Hid (∀ t (W : World), 0 ≤ t → t ≤ 7258300000 → Calls Tryz.prog 53 #[.int .i64 t, .int .i64 n] W fun e w' => e = .returned (.int .i64 ((t - n * 60) * 1000000000)) ∧ W = w') := fun t W a b => sp_instant t n (by omega) (by omega) n0 n1 W
 have HP : Hid (∀ e, InstPost c n prev e = ((∃ t, NextPost c (secAt n prev) t true ∧ e = .returned (.tuple #[.int .i64 ((t - n * 60) * 1000000000), .bool true])) ∨
 (NextPost c (secAt n prev) 0 false ∧ e = .returned (.tuple #[.int .i64 0, .bool false])))) := fun e => rfl
 have HPP := Lib.hid (nextR_post c (secAt n prev))
 generalize InstPost c n prev = IP at *
 generalize secAt n prev = sec at *
 generalize (nextR c sec).1 = r at *
 generalize (nextR c sec).2 = b at *
 clear hr hI p0 p1 hsb
 have HX2 : Hid (∀ W, Ext (w.alloc (.cells c.cells 27)) W → Ext w W ∧ ((loadCron (.pointer (some ⟨w.heap.size, 0, none⟩))).run Tryz.prog W = .ok (.value (.agg c.cells)) W)) := fun W x => ⟨HX.out.trans x, (HC.out.ext x).whole⟩
 go_enter Tryz.func26, Tryz.ntmps26
 go_upto_region 1 with fail
 generalize hwa : w.alloc (.cells c.cells 27) = wa at *
 obtain ⟨T, g, hT, h0, hS2, hI⟩ := cls_intro (Ext wa) _ (Ext.drew wa)
 have hcw := fun t => (HX2.out _ (hS2 t)).2
 have HS2 := Lib.hid hS2
 have HI2 := Lib.hid hI
 clear hS2 hI
 refine wp_region_cls g (by kernel_rfl) (by kernel_rfl) h0 ?_
 clear h0
 repeat (go_big_quiet_step (first
  | (go_at_call 48; exact calls_cls HI2.out (HS.out _ (HS2.out _)))
  | (go_at_call 52; exact calls_cls HI2.out (HN.out _ (HS2.out _)))))
 refine wpQuiet_nil ?_
 rintro _ ⟨t, rfl⟩
 clear hcw
 have h4 := Lib.hid (HX2.out _ (HS2.out t)).1
 generalize g t = w4 at h4 ⊢
 clear HS2 HI2 hT
 rcases b
 ·have hr0 : r = 0 := by rcases HPP.out with ⟨h, _⟩ | ⟨_, h, _⟩; cases h; exact h
  subst hr0
  go_wp2_with fail
  refine bodyPost_ret (v := .tuple #[.int .i64 0, .bool false]) (by simp [results, Tryz.results26, go_sem]) rfl ⟨?_, h4.out⟩
  rw [HP.out]; exact .inr ⟨HPP.out, rfl⟩
 ·have hf : SpecFit c r := by rcases HPP.out with ⟨_, h, _⟩ | ⟨h, _⟩; exact h; cases h
  have hb := fit_bd hf
  have HII := Lib.hid (HI.out r w4 hb.1 hb.2)
  clear hf hb
  go_wp2_with fail
  go_at_call 53
  refine HII.out.mono ?_
  rintro e w5 ⟨rfl, rfl⟩
  generalize hz : (r - n * 60) * 1000000000 = z at *
  go_wp2_with fail
  refine bodyPost_ret (v := .tuple #[.int .i64 z, .bool true]) (by simp [results, Tryz.results26, go_sem]) rfl ⟨?_, h4.out⟩
  rw [HP.out]; exact .inl ⟨r, HPP.out, by rw [hz]⟩
end Go.Proofs.YtmaffdhcmdhjfaaGreatDoor
namespace Go.Proofs.YtmaffdhcmdhjfaaGreatDoor
open Go.RowKit Go.Lib
attribute [local go_sem ↓] execOp_loadCron
def missD (c : CronV) (y m d : Int) : Bool :=
 (toldK (c.p 4).k && (!toldK (c.p 3).k && (!toldK (c.p 5).k && decide (d = Cal.mlen y m)))) ||
 ((decide ((c.p 3).k = 10) && (decide (d = Csm.closestW y m (if Cal.mlen y m < (c.p 3).a then Cal.mlen y m else (c.p 3).a)) && decide (d ≠ (c.p 3).a))) ||
 (decide ((c.p 3).k = 11) && decide (d = Csm.closestW y m (Cal.mlen y m))))
def CronV.missedB (c : CronV) (sec : Int) : Bool := missD c (Cal.civil (sec / 86400)).1 (Cal.civil (sec / 86400)).2.1 (Cal.civil (sec / 86400)).2.2
set_option maxHeartbeats 6400000 in
set_option maxRecDepth 1000000 in
theorem sp_missed (c : CronV) (hr : RightIs c) (n prev : Int) (n0 : -1440 ≤ n) (n1 : n ≤ 1440) (p0 : 31536000000000000 ≤ prev) (p1 : prev ≤ 7258118399999999999) (w : World) (hI : CronItems w c) :
 Calls Tryz.prog 25 #[.agg c.cells, .int .i64 n, .int .i64 prev] w fun e w' => e = .returned (.bool (c.missedB (secAt n prev))) ∧ Ext w w' := by
 have HC : Hid (CronAt (w.alloc (.cells c.cells 27)) w.heap.size c) := cron_alloc w c
 have HX : Hid (Ext w (w.alloc (.cells c.cells 27))) := Ext.alloc _ _
 have hsb : 0 ≤ secAt n prev ∧ secAt n prev ≤ 7258300000 := by unfold secAt; omega
 have HS : Hid (∀ W : World, Calls Tryz.prog 48 #[.int .i64 prev, .int .i64 n] W fun e w' => e = .returned (.int .i64 (secAt n prev)) ∧ W = w') := fun W => sp_second prev n (by omega) (by omega) n0 n1 W
 obtain ⟨N, hN⟩ : ∃ N, N = secAt n prev / 86400 := ⟨_, rfl⟩
 have tN : (secAt n prev).tdiv 86400 = N := by rw [hN]; exact Int.tdiv_eq_ediv_of_nonneg hsb.1
 have hNb : 0 ≤ N ∧ N ≤ 90000 := by omega
 have HD : Hid (∀ W : World, Calls Tryz.prog 47 #[.int .i64 N] W fun e w' => e = .returned (.tuple #[.int .i64 (Cal.civil N).1, .int .i64 (Cal.civil N).2.1, .int .i64 (Cal.civil N).2.2]) ∧ W = w') := fun W => sp_date N hNb.1 (by omega) W
 have HB0 : Hid (c.missedB (secAt n prev) = missD c (Cal.civil N).1 (Cal.civil N).2.1 (Cal.civil N).2.2) := by show _ = _; rw [hN]; rfl
 generalize c.missedB (secAt n prev) = R at *
 obtain ⟨y, m, d, e, v, hdn, y0⟩ := Cal.civil_valid (n := N) hNb.1
 have y1 : y ≤ 2250 := year_bd (N := N) y0 (by rw [← hdn]; exact first_le v (Int.le_refl _)) (by omega)
 rw [e] at HD HB0
 simp only at HD HB0
 have m0 := v.m1
 have m1 := v.m12
 have d0 := v.d1
 have hml := Cal.mlen_bd y m
 have d1 : d ≤ 31 := by have := v.dl; omega
 have HLN : Hid (∀ W : World, Calls Tryz.prog 49 #[.int .i64 y, .int .i64 m] W fun e w' => e = .returned (.int .i64 (Cal.mlen y m)) ∧ W = w') := fun W => sp_length y m (by omega) (by omega) W
 have HCL : Hid (∀ (a : Int) (W : World), 1 ≤ a → a ≤ 31 → Calls Tryz.prog 50 #[.int .i64 y, .int .i64 m, .int .i64 a] W fun e w' => e = .returned (.int .i64 (Csm.closestW y m (if Cal.mlen y m < a then Cal.mlen y m else a))) ∧ W = w') := fun a W a0 a1 => sp_closest y m a y0 (by omega) m0 m1 a0 a1 W
 have HLW : Hid (∀ W : World, Calls Tryz.prog 51 #[.int .i64 y, .int .i64 m] W fun e w' => e = .returned (.int .i64 (Csm.closestW y m (Cal.mlen y m))) ∧ W = w') := fun W => sp_lastwork y m y0 (by omega) m0 m1 W
 have HTOLD : Hid (∀ (p : PartV) W, Calls Tryz.prog 36 #[.agg #[.int .i64 p.k, .int .i64 p.a, .int .i64 p.b, .int .i64 p.s, .int .i64 p.n, .slice p.ia p.items.length p.cap]] W fun e w' => e = .returned (.bool (toldK p.k)) ∧ Ext W w') := fun p W => told_part p W
 have HA : Hid ((c.p 3).k = 10 → 1 ≤ (c.p 3).a ∧ (c.p 3).a ≤ 31) := fun h => by
  cases right_case (all_right hr.all 3 (by decide)) with
  | closest _ _ a b => exact ⟨a, b⟩
  | common k => omega
  | last k => omega
  | lastWork k => omega
  | before k => omega
  | lastOf k => omega
  | nth k => omega
 have HB : Hid (R = ((toldK (c.p 4).k && (!toldK (c.p 3).k && (!toldK (c.p 5).k && decide (d = Cal.mlen y m)))) ||
 ((decide ((c.p 3).k = 10) && (decide (d = Csm.closestW y m (if Cal.mlen y m < (c.p 3).a then Cal.mlen y m else (c.p 3).a)) && decide (d ≠ (c.p 3).a))) ||
 (decide ((c.p 3).k = 11) && decide (d = Csm.closestW y m (Cal.mlen y m)))))) := HB0.out
 clear hr hI p0 p1 hN HB0 e v hdn
 generalize Cal.mlen y m = L at *
 obtain ⟨l0, l1⟩ := hml
 obtain ⟨N0, N1⟩ := hNb
 obtain ⟨s0, s1⟩ := hsb
 generalize secAt n prev = sec at *
 go_enter Tryz.func25, Tryz.ntmps25
 go_wp2_with fail
 go_at_call 48
 refine (HS.out _).mono ?_
 rintro e w1 ⟨rfl, rfl⟩
 go_wp2_with fail
 go_at_call 47
 refine (HD.out _).mono ?_
 rintro e w1 ⟨rfl, rfl⟩
 clear tN
 generalize hwa : w.alloc (.cells c.cells 27) = wa at *
 have d30 := HC.out.k 3 (by omega)
 have d31 := HC.out.a 3 (by omega)
 have d32 := HC.out.b 3 (by omega)
 have d33 := HC.out.s 3 (by omega)
 have d34 := HC.out.n 3 (by omega)
 have d35 := HC.out.it 3 (by omega)
 go_upto_region 2 with fail
 go_cut [10] (fun v W => ∃ B4, v = .pointer (some ⟨B4, 0, none⟩) ∧ Hid (PartAt W B4 (c.p 3)) ∧ Hid (Ext wa W))
 case first =>
  go_wp2_with fail
  go_meet
  exact ⟨_, rfl, ⟨by simp [go_sem], by simp [go_sem], by simp [go_sem], by simp [go_sem], by simp [go_sem], by simp [go_sem]⟩, Ext.alloc _ _⟩
 case rest =>
  obtain ⟨B4, rfl, HP4, HE⟩ := hcut
  clear d30 d31 d32 d33 d34 d35
  obtain ⟨wd, rfl⟩ : ∃ wd : World, wd = wc := ⟨_, rfl⟩
  have C2 : Hid (CronAt wd w.heap.size c) := HC.out.ext HE.out
  have X2 : Hid (Ext w wd) := HX.out.trans HE.out
  clear HC HX HE
  obtain ⟨T, hT⟩ : ∃ T, T = (toldK (c.p 4).k && (!toldK (c.p 3).k && (!toldK (c.p 5).k && decide (d = L)))) := ⟨_, rfl⟩
  rw [← hT] at HB
  have HT := Lib.hid hT
  clear hT
  go_upto_region 3 with fail
  go_cut [45] (fun v W => v = .bool T ∧ Hid (Ext wd W))
  case first =>
   rcases ht4 : toldK (c.p 4).k
   ·have HT2 : Hid (T = false) := by show _ = _; rw [HT.out, ht4]; rfl
    have d0 := C2.out.k 4 (by omega)
    have d1 := C2.out.a 4 (by omega)
    have d2 := C2.out.b 4 (by omega)
    have d3 := C2.out.s 4 (by omega)
    have d4 := C2.out.n 4 (by omega)
    have d5 := C2.out.it 4 (by omega)
    have HC4 := Lib.hid (HTOLD.out (c.p 4) wd)
    rw [ht4] at HC4
    clear ht4
    go_wp2_with fail
    go_at_call 36
    refine HC4.out.mono ?_
    rintro e w4 ⟨rfl, x4⟩
    go_wp2_with fail
    go_meet
    exact ⟨by rw [HT2.out], x4⟩
   ·have HT2 : Hid (T = (!toldK (c.p 3).k && (!toldK (c.p 5).k && decide (d = L)))) := by show _ = _; rw [HT.out, ht4]; rfl
    have d0 := C2.out.k 4 (by omega)
    have d1 := C2.out.a 4 (by omega)
    have d2 := C2.out.b 4 (by omega)
    have d3 := C2.out.s 4 (by omega)
    have d4 := C2.out.n 4 (by omega)
    have d5 := C2.out.it 4 (by omega)
    have HC4 := Lib.hid (HTOLD.out (c.p 4) wd)
    rw [ht4] at HC4
    clear ht4 HT
    go_wp2_with fail
    go_at_call 36
    refine HC4.out.mono ?_
    rintro e w4 ⟨rfl, x4⟩
    clear d0 d1 d2 d3 d4 d5
    have X4 := Lib.hid x4
    have P4 : Hid (PartAt w4 B4 (c.p 3)) := HP4.out.ext x4
    clear x4
    have g0 := P4.out.k
    have g1 := P4.out.a
    have g2 := P4.out.b
    have g3 := P4.out.s
    have g4 := P4.out.n
    have g5 := P4.out.it
    rcases ht3 : toldK (c.p 3).k
    ·have HT3 : Hid (T = (!toldK (c.p 5).k && decide (d = L))) := by show _ = _; rw [HT2.out, ht3]; rfl
     have HC3 := Lib.hid (HTOLD.out (c.p 3) w4)
     rw [ht3] at HC3
     clear ht3 HT2
     go_wp2_with fail
     go_at_call 36
     refine HC3.out.mono ?_
     rintro e w5 ⟨rfl, x5⟩
     clear g0 g1 g2 g3 g4 g5
     have X5 := Lib.hid (X4.out.trans x5)
     clear x5
     have C5 : Hid (CronAt w5 w.heap.size c) := C2.out.ext X5.out
     have d0 := C5.out.k 5 (by omega)
     have d1 := C5.out.a 5 (by omega)
     have d2 := C5.out.b 5 (by omega)
     have d3 := C5.out.s 5 (by omega)
     have d4 := C5.out.n 5 (by omega)
     have d5 := C5.out.it 5 (by omega)
     have HC5 := Lib.hid (HTOLD.out (c.p 5) w5)
     rcases ht5 : toldK (c.p 5).k
     ·rw [ht5] at HC5
      have HT4 : Hid (T = decide (d = L)) := by show _ = _; rw [HT3.out, ht5]; rfl
      clear ht5 HT3
      by_cases hd : d = L
      ·have HT5 : Hid (T = true) := by show _ = _; rw [HT4.out]; simp [hd]
       have hb : (d == L) = true := by simp [hd]
       clear HT4 hd
       go_wp2_with fail
       go_at_call 36
       refine HC5.out.mono ?_
       rintro e w6 ⟨rfl, x6⟩
       have X6 := Lib.hid (X5.out.trans x6)
       go_wp2_with fail
       go_at_call 49
       refine (HLN.out _).mono ?_
       rintro e w7 ⟨rfl, rfl⟩
       go_wp2_with fail
       go_meet
       exact ⟨by rw [HT5.out], X6.out⟩
      ·have HT5 : Hid (T = false) := by show _ = _; rw [HT4.out]; simp [hd]
       have hb : (d == L) = false := by simp [hd]
       clear HT4 hd
       go_wp2_with fail
       go_at_call 36
       refine HC5.out.mono ?_
       rintro e w6 ⟨rfl, x6⟩
       have X6 := Lib.hid (X5.out.trans x6)
       go_wp2_with fail
       go_at_call 49
       refine (HLN.out _).mono ?_
       rintro e w7 ⟨rfl, rfl⟩
       go_wp2_with fail
       go_meet
       exact ⟨by rw [HT5.out], X6.out⟩
     ·rw [ht5] at HC5
      have HT4 : Hid (T = false) := by show _ = _; rw [HT3.out, ht5]; rfl
      clear ht5 HT3
      go_wp2_with fail
      go_at_call 36
      refine HC5.out.mono ?_
      rintro e w6 ⟨rfl, x6⟩
      have X6 := Lib.hid (X5.out.trans x6)
      go_wp2_with fail
      go_meet
      exact ⟨by rw [HT4.out], X6.out⟩
    ·have HT3 : Hid (T = false) := by show _ = _; rw [HT2.out, ht3]; rfl
     have HC3 := Lib.hid (HTOLD.out (c.p 3) w4)
     rw [ht3] at HC3
     clear ht3 HT2
     go_wp2_with fail
     go_at_call 36
     refine HC3.out.mono ?_
     rintro e w5 ⟨rfl, x5⟩
     go_wp2_with fail
     go_meet
     exact ⟨by rw [HT3.out], X4.out.trans x5⟩
  case rest =>
   obtain ⟨rfl, HE3⟩ := hcut
   obtain ⟨we, rfl⟩ : ∃ we : World, we = wc := ⟨_, rfl⟩
   have P4 : Hid (PartAt we B4 (c.p 3)) := HP4.out.ext HE3.out
   have X3 : Hid (Ext w we) := X2.out.trans HE3.out
   clear HP4 C2 X2 HE3
   rcases T
   ·have HB2 : Hid (R = ((decide ((c.p 3).k = 10) && (decide (d = Csm.closestW y m (if L < (c.p 3).a then L else (c.p 3).a)) && decide (d ≠ (c.p 3).a))) || (decide ((c.p 3).k = 11) && decide (d = Csm.closestW y m L)))) := by show _ = _; rw [HB.out]; rfl
    have p0 := P4.out.k
    have p1 := P4.out.a
    clear P4 HB
    by_cases h10 : (c.p 3).k = 10
    ·obtain ⟨a0, a1⟩ := HA.out h10
     have HCC : Hid (∀ W : World, Calls Tryz.prog 50 #[.int .i64 y, .int .i64 m, .int .i64 (c.p 3).a] W fun e w' => e = .returned (.int .i64 (Csm.closestW y m (if L < (c.p 3).a then L else (c.p 3).a))) ∧ W = w') := fun W => HCL.out _ W a0 a1
     have HB3 : Hid (R = (decide (d = Csm.closestW y m (if L < (c.p 3).a then L else (c.p 3).a)) && decide (d ≠ (c.p 3).a))) := by show _ = _; rw [HB2.out, h10]; simp
     rw [h10] at p0
     clear HB2 h10 HCL HLW
     generalize Csm.closestW y m (if L < (c.p 3).a then L else (c.p 3).a) = D at *
     generalize (c.p 3).a = A at *
     by_cases hd : d = D
     ·by_cases hda : d = A
      ·have HB4 : Hid (R = false) := by show _ = _; rw [HB3.out]; simp [hda]
       have hb : (d == D) = true := by simp [hd]
       have hb2 : (d != A) = false := by simp [hda]
       clear HB3 hd hda
       go_wp2_with fail
       go_at_call 50
       refine (HCC.out _).mono ?_
       rintro e w1 ⟨rfl, rfl⟩
       go_wp2_with fail
       go_ret
       exact ⟨ret_bool (by rw [HB4.out]), X3.out⟩
      ·have HB4 : Hid (R = true) := by show _ = _; rw [HB3.out]; simp [hd]; rw [← hd]; exact hda
       have hb : (d == D) = true := by simp [hd]
       have hb2 : (d != A) = true := by simp [hda]
       clear HB3 hd hda
       go_wp2_with fail
       go_at_call 50
       refine (HCC.out _).mono ?_
       rintro e w1 ⟨rfl, rfl⟩
       go_wp2_with fail
       go_ret
       exact ⟨ret_bool (by rw [HB4.out]), X3.out⟩
     ·have HB4 : Hid (R = false) := by show _ = _; rw [HB3.out]; simp [hd]
      have hb : (d == D) = false := by simp [hd]
      clear HB3 hd
      go_wp2_with fail
      go_at_call 50
      refine (HCC.out _).mono ?_
      rintro e w1 ⟨rfl, rfl⟩
      go_wp2_with fail
      go_ret
      exact ⟨ret_bool (by rw [HB4.out]), X3.out⟩
    ·by_cases h11 : (c.p 3).k = 11
     ·have HB3 : Hid (R = decide (d = Csm.closestW y m L)) := by show _ = _; rw [HB2.out, h11]; simp
      rw [h11] at p0
      clear HB2 h10 h11 HCL
      generalize Csm.closestW y m L = D at *
      go_wp2_with fail
      go_at_call 51
      refine (HLW.out _).mono ?_
      rintro e w1 ⟨rfl, rfl⟩
      go_wp2_with fail
      go_ret
      exact ⟨ret_bool (by rw [HB3.out]; try (first | rfl | simp)), X3.out⟩
     ·have HB3 : Hid (R = false) := by show _ = _; rw [HB2.out]; simp [h10, h11]
      have b10 : ((c.p 3).k == 10) = false := by simp [h10]
      have b11 : ((c.p 3).k == 11) = false := by simp [h11]
      clear HB2 h10 h11 HCL HLW
      generalize (c.p 3).k = K3 at *
      go_wp2_with fail
      go_ret
      exact ⟨ret_bool (by rw [HB3.out]), X3.out⟩
   ·have HB2 : Hid (R = true) := by show _ = _; rw [HB.out]; rfl
    go_wp2_with fail
    go_ret
    exact ⟨ret_bool (by rw [HB2.out]), X3.out⟩
end Go.Proofs.YtmaffdhcmdhjfaaGreatDoor
