/- laws.FnNext returns true. FnNext: for every input the law returns true; its conditions: the listed package-level variables read as the program's text lays them (the card ties that). -/
import Derived.Test.YtmaffdhcmdhjfaaGreatDoorNX
import Derived.Test.YtmaffdhcmdhjfaaGreatDoorNK
set_option linter.unusedSimpArgs false
set_option linter.unusedVariables false
namespace Go.Proofs.YtmaffdhcmdhjfaaGreatDoor
open Go.RowKit Go.Lib
attribute [local go_sem ↓] execOp_loadCron
set_option maxHeartbeats 6400000 in
set_option maxRecDepth 1000000 in
theorem law_next (c : CronV) (hO : CronIn c) (n prev : Int) (w : World) (hI : CronItems w c) (hE : EnvN w) :
 Calls Tryz.prog 6 #[.agg c.cells, .int .i64 n, .int .i64 prev] w fun e w' => e = .returned (.bool true) ∧ Ext w w' := by
 have HC : Hid (CronAt (w.alloc (.cells c.cells 27)) w.heap.size c) := cron_alloc w c
 have HX : Hid (Ext w (w.alloc (.cells c.cells 27))) := Ext.alloc _ _
 have hld := HC.out.whole
 have HI := Lib.hid hI
 have HO := Lib.hid hO
 have HE := Lib.hid hE
 have HAK : Hid (∀ W, Ext w W → Calls Tryz.prog 22 #[.agg c.cells, .int .i64 n, .int .i64 prev] W fun e w' => e = .returned (.bool (askedB c n prev)) ∧ Ext W w') := fun W x => asked_any c hO n prev W (hI.ext x) (hE.ext x).env
 clear hI hO hE
 go_enter Tryz.func6, Tryz.ntmps6
 go_wp2_with fail
 go_at_call 12
 refine (fits_any c _).mono ?_
 rintro e w1 ⟨rfl, x1⟩
 have C1 := Lib.hid (HC.out.ext x1)
 have X1 := Lib.hid (HX.out.trans x1)
 clear x1 hld
 have hld := C1.out.whole
 go_wp2_with fail
 go_at_call 22
 refine (HAK.out _ X1.out).mono ?_
 rintro e w2 ⟨rfl, x2⟩
 have C2 := Lib.hid (C1.out.ext x2)
 have X2 := Lib.hid (X1.out.trans x2)
 clear x2 hld
 rcases ha : askedB c n prev
 ·go_wp2_with fail
  go_ret
  exact ⟨rfl, X2.out⟩
 ·have hA := asked_is ha
  have hi := hA.range
  have HA := Lib.hid hA.asks
  have HR := Lib.hid hi
  have HMS : Hid (∀ W, Ext w W → Calls Tryz.prog 25 #[.agg c.cells, .int .i64 n, .int .i64 prev] W fun e w' => e = .returned (.bool (c.missedB (secAt n prev))) ∧ Ext W w') := fun W x => sp_missed c hA.right n prev hi.n0 hi.n1 hi.p0 hi.p1 W (HI.out.ext x)
  have HIN : Hid (∀ W, Ext w W → Calls Tryz.prog 26 #[.agg c.cells, .int .i64 n, .int .i64 prev] W fun e w' => InstPost c n prev e ∧ Ext W w') := fun W x => sp_nextinstant c hA.right n prev hi.n0 hi.n1 hi.p0 hi.p1 W (HI.out.ext x)
  have HTX : Hid (∀ W, Ext w W → Calls Tryz.prog 14 #[.agg c.cells] W fun e w' => e = .returned (.string (mk c.text)) ∧ Ext W w') := fun W x => text_cron c (cron_ok HO.out hA.right.all) W (HI.out.ext x) (HE.out.ext x).env
  have HNT : Hid (∀ W, Ext w W → Calls Tryz.prog 28 #[.string (mk c.text), .int .i64 n, .int .i64 prev] W fun e w' => e = .returned (.tuple #[.int .i64 (nextC c.cfgM n prev).1, .int .i64 (nextC c.cfgM n prev).2]) ∧ Ext W w') := fun W x => next_text hA.asks hi.n0 hi.n1 prev W (HE.out.ext x)
  have HLAW : Hid (c.missedB (secAt n prev) = false → (∀ t, NextPost c (secAt n prev) t true → nextC c.cfgM n prev = ((t - n * 60) * 1000000000, 0)) ∧ (NextPost c (secAt n prev) 0 false → c.byYears = true → nextC c.cfgM n prev = (0, 1))) := fun hm => next_law hA.asks hi hm
  generalize mk c.text = tx at *
  generalize nextC c.cfgM n prev = NX at *
  clear ha hA hi HAK
  have hld := C2.out.whole
  rcases hm : c.missedB (secAt n prev)
  ·rw [hm] at HMS
   obtain ⟨l1, l2⟩ := HLAW.out hm
   have HL1 := Lib.hid l1
   have HL2 := Lib.hid l2
   clear hm HLAW l1 l2
   go_wp2_with fail
   go_at_call 25
   refine (HMS.out _ X2.out).mono ?_
   rintro e w3 ⟨rfl, x3⟩
   have C3 := Lib.hid (C2.out.ext x3)
   have X3 := Lib.hid (X2.out.trans x3)
   clear x3 hld
   have hld := C3.out.whole
   go_wp2_with fail
   go_at_call 26
   refine (HIN.out _ X3.out).mono ?_
   rintro e w4 ⟨⟨t, hp, rfl⟩ | ⟨hp, rfl⟩, x4⟩
   ·have C4 := Lib.hid (C3.out.ext x4)
    have X4 := Lib.hid (X3.out.trans x4)
    have HNX := Lib.hid (HL1.out t hp)
    clear x4 hld hp
    have hld := C4.out.whole
    generalize (t - n * 60) * 1000000000 = Z at *
    go_wp2_with fail
    go_at_call 14
    refine (HTX.out _ X4.out).mono ?_
    rintro e w5 ⟨rfl, x5⟩
    have X5 := Lib.hid (X4.out.trans x5)
    clear x5 hld
    go_wp2_with fail
    go_at_call 28
    refine (HNT.out _ X5.out).mono ?_
    rintro e w6 ⟨rfl, x6⟩
    have X6 := Lib.hid (X5.out.trans x6)
    clear x6
    rw [HNX.out]
    go_wp2_with fail
    go_ret
    exact ⟨by first | rfl | simp, X6.out⟩
   ·have C4 := Lib.hid (C3.out.ext x4)
    have X4 := Lib.hid (X3.out.trans x4)
    have HNX := Lib.hid (HL2.out hp)
    clear x4 hld hp
    have hld := C4.out.whole
    have HBY := Lib.hid (by_years c w4)
    rcases hb : c.byYears
    ·rw [hb] at HBY
     clear hb
     go_wp2_with fail
     go_at_call 27
     refine HBY.out.mono ?_
     rintro e w5 ⟨rfl, x5⟩
     have X5 := Lib.hid (X4.out.trans x5)
     clear x5 hld
     go_wp2_with fail
     go_ret
     exact ⟨rfl, X5.out⟩
    ·rw [hb] at HBY
     have HN2 := Lib.hid (HNX.out hb)
     clear hb
     go_wp2_with fail
     go_at_call 27
     refine HBY.out.mono ?_
     rintro e w5 ⟨rfl, x5⟩
     have C5 := Lib.hid (C4.out.ext x5)
     have X5 := Lib.hid (X4.out.trans x5)
     clear x5 hld
     have hld := C5.out.whole
     go_wp2_with fail
     go_at_call 14
     refine (HTX.out _ X5.out).mono ?_
     rintro e w6 ⟨rfl, x6⟩
     have X6 := Lib.hid (X5.out.trans x6)
     clear x6 hld
     go_wp2_with fail
     go_at_call 28
     refine (HNT.out _ X6.out).mono ?_
     rintro e w7 ⟨rfl, x7⟩
     have X7 := Lib.hid (X6.out.trans x7)
     clear x7
     rw [HN2.out]
     go_wp2_with fail
     go_ret
     exact ⟨by first | rfl | simp, X7.out⟩
  ·rw [hm] at HMS
   clear hm HLAW
   go_wp2_with fail
   go_at_call 25
   refine (HMS.out _ X2.out).mono ?_
   rintro e w3 ⟨rfl, x3⟩
   go_wp2_with fail
   go_ret
   exact ⟨rfl, X2.out.trans x3⟩
end Go.Proofs.YtmaffdhcmdhjfaaGreatDoor
namespace Go.Proofs.YtmaffdhcmdhjfaaGreatDoor.FnNext
open Go.ChangeShapes Go.WideShapes Go.ChangeAt Go.RowKit
set_option linter.unusedVariables false
theorem door_met (os : Os) (args : Array Value) : laidMetH Tryz.prog laid8 ((World.doorLaid Tryz.prog 119 os).forCall (fun _ _ => 0) ⟨#[], args, []⟩).memory :=
 laidMetH_of_parts3 (fuel := 8) (laidMet_of_run' 8 (by kernel_rfl) (by kernel_rfl)) (by kernel_rfl) (by kernel_rfl)
set_option maxRecDepth 1000000 in
theorem lifted (os : Os) (started : os.Started) (H : Type) (enc : TypeId × Value → H) :
 ReturnsInHanded {} Tryz.checked os 6 .any (fun w args => (Rows.fnNextSpec.pre enc Tryz.prog Tryz.f6 [] false w args ∧ laidMetH Tryz.prog laid8 w) ∧ sizedMet enc Tryz.prog Tryz.f6 (OpenSpec.ofChange Rows.fnNextSpec) false w args)
  (Rows.fnNextSpec.post enc Tryz.prog Tryz.f6 false true false false) := by
 refine returnsInHanded_of_change_and (C := Tryz.checked) (X := fun w _ => laidMetH Tryz.prog laid8 w) (fun _ _ _ hh h => h.of_heap hh) own started (by kernel_rfl) Tryz.func6
  (ChangeSpec.witness_shaped (enc := enc) (C := Tryz.checked) (os := os) (X := fun w _ => laidMetH Tryz.prog laid8 w) false (World.doorLaid Tryz.prog 119 os) #[.agg #[.int .i64 0, .int .i64 0, .int .i64 0, .int .i64 0, .int .i64 0, .slice none 0 0, .int .i64 0, .int .i64 0, .int .i64 0, .int .i64 0, .int .i64 0, .slice none 0 0, .int .i64 0, .int .i64 0, .int .i64 0, .int .i64 0, .int .i64 0, .slice none 0 0, .int .i64 0, .int .i64 0, .int .i64 0, .int .i64 0, .int .i64 0, .slice none 0 0, .int .i64 0, .int .i64 0, .int .i64 0, .int .i64 0, .int .i64 0, .slice none 0 0, .int .i64 0, .int .i64 0, .int .i64 0, .int .i64 0, .int .i64 0, .slice none 0 0, .int .i64 0, .int .i64 0, .int .i64 0, .int .i64 0, .int .i64 0, .slice none 0 0, .bool false], .int .i64 0, .int .i64 0] 16 rfl (World.shaped_of_RefB (by kernel_rfl) (by kernel_rfl)) (by kernel_rfl) (by kernel_rfl) (by kernel_rfl) (door_met os _)) ?_
 intro W base args ds gs0 before hval0 hW _ _ hL _
 have hval : ∀ (j : Nat) t v, Tryz.f6.params[j]? = some t → args[j]? = some v → Value.okWide Tryz.prog W .any base t v := hval0
 have hW' := hW
 obtain ⟨p, q, hA0, hV0, rfl, hfz, hnd⟩ := hW
 have hA : DataW.TrodAll enc Tryz.prog W 0 (fun _ => true) true Tryz.f6.params.toList args.toList ds p := hA0
 rw [Tryz.params6] at hA hval
 obtain ⟨v0, vs0, d0, ds0, p0, q0, hargs, rfl, rfl, h0, r0⟩ := trodAll_cons hA
 obtain ⟨v1, vs1, d1, ds1, p1, q1, rfl, rfl, rfl, h1, r1⟩ := trodAll_cons r0
 obtain ⟨v2, vs2, d2, ds2, p2, q2, rfl, rfl, rfl, h2, r2⟩ := trodAll_cons r1
 obtain ⟨rfl, rfl, rfl⟩ := trodAll_nil r2
 obtain rfl : args = #[v0, v1, v2] := by cases args; simp_all
 obtain ⟨c, rfl, hcin, hcit⟩ := open_cron (hval 0 27 v0 rfl rfl) h0
 obtain ⟨n, rfl, rfl, rfl, w1⟩ := open_int Tryz.underlying3 (hval 1 3 v1 rfl rfl) h1
 obtain ⟨prev, rfl, rfl, rfl, w2⟩ := open_int Tryz.underlying2 (hval 2 2 v2 rfl rfl) h2
 have hg : gs0.length = 3 := vars_len _ _ _ hV0
 have hE : EnvN W := ⟨(env_of8 hL).1, (env_of8 hL).2⟩
 refine (law_next c hcin n prev W hcit hE).mono fun e W' ⟨he, hb⟩ => ?_
 subst he
 refine ⟨_, rfl, law_post hW' hb (by kernel_rfl) (by kernel_rfl) (by kernel_rfl) ?_⟩
 match gs0, hg with
 | [g1, g2, g3], _ => rfl
theorem over : Rows.FnNextSaid :=
 OpenClaim.holds_of_wide 6 Tryz.f6 rfl rfl rfl rfl rfl rfl rfl ⟨rfl, rfl, rfl, rfl, rfl⟩ rfl rfl rfl rfl rfl (by kernel_rfl) Tryz.func6 (by kernel_rfl)
  (of_decide_eq_true (by kernel_rfl)) (by unfold Func.isWrapper; first | (rw [if_pos (by decide +kernel)]; kernel_rfl) | (rw [if_neg (by decide +kernel)]; exact ⟨rfl, rfl⟩))
  (fun os started H enc _ => lifted os started H enc)
theorem card : Rows.FnNextCardSaid :=
 Claim7.holds_tied_plain_at .later [] [.data, .data, .data, .sentinel, .sentinel, .sentinel, .sentinel, .sentinel] true (true, "ab0e5451898ba7af3fddb4ece5cff62e140668e4d854a8b8f5ee08cd0b170de1") true
  over (fun _ h => by cases h) (by kernel_rfl) (fun _ h => by cases h) fnNext_row_tie rfl ⟨rfl, rfl⟩ (by kernel_rfl) rfl
  (fun f fn hf hfn => by
    obtain rfl : f = 6 := Option.some.inj ((show Tryz.prog.funcNamed "loop.example/pub-g03356/laws.FnNext" = some 6 by kernel_rfl).symm.trans hf) |>.symm
    obtain rfl : fn = Tryz.f6 := (Option.some.inj (Tryz.func6.symm.trans hfn)).symm
    exact ⟨by kernel_rfl, fun j t ht => by
     rw [Tryz.params6] at ht
     have hm : t ∈ [27, 3, 2] := by simpa using Array.mem_of_getElem? ht
     have hall : ([27, 3, 2].all fun u => !Tryz.prog.wantsStandIn u) = true := by kernel_rfl
     exact (show Tryz.prog.wantsStandIn t = false by simpa using List.all_eq_true.1 hall t hm)⟩)
  (by kernel_rfl)
#print axioms card
end Go.Proofs.YtmaffdhcmdhjfaaGreatDoor.FnNext
