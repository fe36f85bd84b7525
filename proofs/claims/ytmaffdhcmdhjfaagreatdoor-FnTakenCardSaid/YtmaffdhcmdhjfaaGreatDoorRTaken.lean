/- laws.FnTaken returns true. FnTaken: for every input the law returns true; its conditions: the listed package-level variables read as the program's text lays them (the card ties that). -/
import Derived.Test.YtmaffdhcmdhjfaaGreatDoorNX
import Derived.Test.YtmaffdhcmdhjfaaGreatDoorNK
set_option linter.unusedSimpArgs false
set_option linter.unusedVariables false
namespace Go.Proofs.YtmaffdhcmdhjfaaGreatDoor
open Go.RowKit Go.Lib
attribute [local go_sem ↓] execOp_loadCron
theorem nextC_code {C : Csm.Cfg} {n prev : Int} (h : InRange n prev) : (nextC C n prev).2 = 0 ∨ (nextC C n prev).2 = 1 := by
 rcases hx : fireO C n prev with _ | x
 ·rw [nextC_none h hx]; exact .inr rfl
 ·rw [nextC_some h hx]; exact .inl rfl
set_option maxHeartbeats 6400000 in
set_option maxRecDepth 1000000 in
theorem law_taken (c : CronV) (hO : CronIn c) (w : World) (hI : CronItems w c) (hE : EnvN w) :
 Calls Tryz.prog 8 #[.agg c.cells] w fun e w' => e = .returned (.bool true) ∧ Ext w w' := by
 have HC : Hid (CronAt (w.alloc (.cells c.cells 27)) w.heap.size c) := cron_alloc w c
 have HX : Hid (Ext w (w.alloc (.cells c.cells 27))) := Ext.alloc _ _
 have hld := HC.out.whole
 have HI := Lib.hid hI
 have HO := Lib.hid hO
 have HE := Lib.hid hE
 clear hI hO hE
 go_enter Tryz.func8, Tryz.ntmps8
 go_wp2_with fail
 go_at_call 12
 refine (fits_any c _).mono ?_
 rintro e w1 ⟨rfl, x1⟩
 have C1 := Lib.hid (HC.out.ext x1)
 have X1 := Lib.hid (HX.out.trans x1)
 clear x1 hld
 have hld := C1.out.whole
 have HRT : Hid (∀ W, Ext w W → Calls Tryz.prog 13 #[.agg c.cells] W fun e w' => e = .returned (.bool c.rightB) ∧ Ext W w') := fun W x => right_cron c HO.out W (HI.out.ext x) (HE.out.ext x).env
 rcases hr : c.rightB
 ·rw [hr] at HRT
  clear hr
  go_wp2_with fail
  go_at_call 13
  refine (HRT.out _ X1.out).mono ?_
  rintro e w2 ⟨rfl, x2⟩
  go_wp2_with fail
  go_ret
  exact ⟨rfl, X1.out.trans x2⟩
 ·rw [hr] at HRT
  have hR := right_is hr
  clear hr
  go_wp2_with fail
  go_at_call 13
  refine (HRT.out _ X1.out).mono ?_
  rintro e w2 ⟨rfl, x2⟩
  have C2 := Lib.hid (C1.out.ext x2)
  have X2 := Lib.hid (X1.out.trans x2)
  clear x2 hld
  have hld := C2.out.whole
  have HST := Lib.hid (stated_cron c (all_right hR.all 5 (by decide)) w2 (HI.out.ext X2.out))
  rcases hs : c.statedB
  ·rw [hs] at HST
   clear hs
   go_wp2_with fail
   go_at_call 29
   refine HST.out.mono ?_
   rintro e w3 ⟨rfl, x3⟩
   go_wp2_with fail
   go_ret
   exact ⟨rfl, X2.out.trans x3⟩
  ·rw [hs] at HST
   have HTX : Hid (∀ W, Ext w W → Calls Tryz.prog 14 #[.agg c.cells] W fun e w' => e = .returned (.string (mk c.text)) ∧ Ext W w') := fun W x => text_cron c (cron_ok HO.out hR.all) W (HI.out.ext x) (HE.out.ext x).env
   have hl := hR.len
   have hf := (fields_exact hR).1
   have htl := taken_law hR
   have HTA : Hid (∀ W, Ext w W → Calls Tryz.prog 30 #[.string (mk c.text)] W fun e w' => e = .returned (.bool c.takenS) ∧ Ext W w') := fun W x => by
    have := taken_any (mk c.text) W (by rw [size_mk]; omega) (HE.out.ext x).env
    have e : takenO (bytes (mk c.text)) = c.takenS := by unfold takenO; rw [bytes_mk, hf]; exact htl
    rw [e] at this
    exact this
   have HTS : Hid (∀ W, Ext w W → Calls Tryz.prog 31 #[.agg c.cells] W fun e w' => e = .returned (.bool c.takenS) ∧ Ext W w') := fun W x => taken_spec c ⟨fun j hj => all_right hR.all j hj⟩ hR.all W (HI.out.ext x)
   have HNX : Hid (∀ W, Ext w W → Calls Tryz.prog 28 #[.string (mk c.text), .int .i64 0, .int .i64 31536000000000000] W fun e w' => (∃ x k, e = .returned (.tuple #[.int .i64 x, .int .i64 k]) ∧ (k == 3) = !c.takenS) ∧ Ext W w') := fun W x => by
    rcases ht : c.takenS
    ·have := impl_Next3 (mk c.text) 0 31536000000000000 c.fieldsL W (by rw [size_mk]; omega) (by omega) (by omega) (by rw [bytes_mk]; exact hf) (by rw [htl]; exact ht) (HE.out.ext x).env
     refine this.mono ?_
     rintro e w' ⟨rfl, x'⟩
     exact ⟨⟨0, 3, rfl, rfl⟩, x'⟩
    ·have hA : Asks c := ⟨hR, ht, hs⟩
     have hi : InRange 0 31536000000000000 := ⟨by omega, by omega, by omega, by omega⟩
     refine (next_text hA (n := 0) (by omega) (by omega) 31536000000000000 W (HE.out.ext x)).mono ?_
     rintro e w' ⟨rfl, x'⟩
     refine ⟨⟨_, _, rfl, ?_⟩, x'⟩
     rcases nextC_code (C := c.cfgM) hi with h | h <;> rw [h] <;> rfl
   generalize mk c.text = tx at *
   generalize c.takenS = T at *
   clear hs hl hf htl hR
   go_wp2_with fail
   go_at_call 29
   refine HST.out.mono ?_
   rintro e w3 ⟨rfl, x3⟩
   have C3 := Lib.hid (C2.out.ext x3)
   have X3 := Lib.hid (X2.out.trans x3)
   clear x3 hld
   have hld := C3.out.whole
   go_wp2_with fail
   go_at_call 14
   refine (HTX.out _ X3.out).mono ?_
   rintro e w4 ⟨rfl, x4⟩
   have C4 := Lib.hid (C3.out.ext x4)
   have X4 := Lib.hid (X3.out.trans x4)
   clear x4 hld
   go_wp2_with fail
   go_at_call 28
   refine (HNX.out _ X4.out).mono ?_
   rintro e w5 ⟨⟨x, k, rfl, hk⟩, x5⟩
   have C5 := Lib.hid (C4.out.ext x5)
   have X5 := Lib.hid (X4.out.trans x5)
   clear x5
   have HTA2 : Hid (∀ W, Ext w5 W → Calls Tryz.prog 30 #[.string tx] W fun e w' => e = .returned (.bool T) ∧ Ext w5 w') := fun W x => (HTA.out W (X5.out.trans x)).mono fun e w' h => ⟨h.1, x.trans h.2⟩
   have HTS2 : Hid (∀ W, Ext w5 W → Calls Tryz.prog 31 #[.agg c.cells] W fun e w' => e = .returned (.bool T) ∧ Ext w5 w') := fun W x => (HTS.out W (X5.out.trans x)).mono fun e w' h => ⟨h.1, x.trans h.2⟩
   have HLD : Hid (∀ W, Ext w5 W → ((loadCron (.pointer (some ⟨w.heap.size, 0, none⟩))).run Tryz.prog W = .ok (.value (.agg c.cells)) W)) := fun W x => (C5.out.ext x).whole
   clear HRT HST HNX HTX HTA HTS
   rcases T
   all_goals
    simp only [Bool.not_true, Bool.not_false] at hk
    go_wp2_with fail
    obtain ⟨T', g, hT, h0, hS2, hI⟩ := cls_intro (Ext w5) _ (Ext.drew w5)
    have hcw := fun t => HLD.out _ (hS2 t)
    have HS2 := Lib.hid hS2
    have HI2 := Lib.hid hI
    clear hS2 hI
    refine wp_region_cls g (by kernel_rfl) (by kernel_rfl) h0 ?_
    clear h0
    repeat (go_big_quiet_step (first
     | (go_at_call 30; exact calls_cls HI2.out (HTA2.out _ (HS2.out _)))
     | (go_at_call 31; exact calls_cls HI2.out (HTS2.out _ (HS2.out _)))))
    refine wpQuiet_nil ?_
    rintro _ ⟨t, rfl⟩
    clear hcw
    have h4 := Lib.hid (X5.out.trans (HS2.out t))
    generalize g t = w6 at h4 ⊢
    go_wp2_with fail
    go_ret
    exact ⟨by first | rfl | simp | (simp; exact hk), h4.out⟩
end Go.Proofs.YtmaffdhcmdhjfaaGreatDoor
namespace Go.Proofs.YtmaffdhcmdhjfaaGreatDoor.FnTaken
open Go.ChangeShapes Go.WideShapes Go.ChangeAt Go.RowKit
set_option linter.unusedVariables false
theorem door_met (os : Os) (args : Array Value) : laidMetH Tryz.prog laid8 ((World.doorLaid Tryz.prog 119 os).forCall (fun _ _ => 0) ⟨#[], args, []⟩).memory :=
 laidMetH_of_parts3 (fuel := 8) (laidMet_of_run' 8 (by kernel_rfl) (by kernel_rfl)) (by kernel_rfl) (by kernel_rfl)
set_option maxRecDepth 1000000 in
theorem lifted (os : Os) (started : os.Started) (H : Type) (enc : TypeId × Value → H) :
 ReturnsInHanded {} Tryz.checked os 8 .any (fun w args => (Rows.fnTakenSpec.pre enc Tryz.prog Tryz.f8 [] false w args ∧ laidMetH Tryz.prog laid8 w) ∧ sizedMet enc Tryz.prog Tryz.f8 (OpenSpec.ofChange Rows.fnTakenSpec) false w args)
  (Rows.fnTakenSpec.post enc Tryz.prog Tryz.f8 false true false false) := by
 refine returnsInHanded_of_change_and (C := Tryz.checked) (X := fun w _ => laidMetH Tryz.prog laid8 w) (fun _ _ _ hh h => h.of_heap hh) own started (by kernel_rfl) Tryz.func8
  (ChangeSpec.witness_shaped (enc := enc) (C := Tryz.checked) (os := os) (X := fun w _ => laidMetH Tryz.prog laid8 w) false (World.doorLaid Tryz.prog 119 os) #[.agg #[.int .i64 0, .int .i64 0, .int .i64 0, .int .i64 0, .int .i64 0, .slice none 0 0, .int .i64 0, .int .i64 0, .int .i64 0, .int .i64 0, .int .i64 0, .slice none 0 0, .int .i64 0, .int .i64 0, .int .i64 0, .int .i64 0, .int .i64 0, .slice none 0 0, .int .i64 0, .int .i64 0, .int .i64 0, .int .i64 0, .int .i64 0, .slice none 0 0, .int .i64 0, .int .i64 0, .int .i64 0, .int .i64 0, .int .i64 0, .slice none 0 0, .int .i64 0, .int .i64 0, .int .i64 0, .int .i64 0, .int .i64 0, .slice none 0 0, .int .i64 0, .int .i64 0, .int .i64 0, .int .i64 0, .int .i64 0, .slice none 0 0, .bool false]] 16 rfl (World.shaped_of_RefB (by kernel_rfl) (by kernel_rfl)) (by kernel_rfl) (by kernel_rfl) (by kernel_rfl) (door_met os _)) ?_
 intro W base args ds gs0 before hval0 hW _ _ hL _
 have hval : ∀ (j : Nat) t v, Tryz.f8.params[j]? = some t → args[j]? = some v → Value.okWide Tryz.prog W .any base t v := hval0
 have hW' := hW
 obtain ⟨p, q, hA0, hV0, rfl, hfz, hnd⟩ := hW
 have hA : DataW.TrodAll enc Tryz.prog W 0 (fun _ => true) true Tryz.f8.params.toList args.toList ds p := hA0
 rw [Tryz.params8] at hA hval
 obtain ⟨v0, vs0, d0, ds0, p0, q0, hargs, rfl, rfl, h0, r0⟩ := trodAll_cons hA
 obtain ⟨rfl, rfl, rfl⟩ := trodAll_nil r0
 obtain rfl : args = #[v0] := by cases args; simp_all
 obtain ⟨c, rfl, hcin, hcit⟩ := open_cron (hval 0 27 v0 rfl rfl) h0
 have hg : gs0.length = 3 := vars_len _ _ _ hV0
 have hE : EnvN W := ⟨(env_of8 hL).1, (env_of8 hL).2⟩
 refine (law_taken c hcin W hcit hE).mono fun e W' ⟨he, hb⟩ => ?_
 subst he
 refine ⟨_, rfl, law_post hW' hb (by kernel_rfl) (by kernel_rfl) (by kernel_rfl) ?_⟩
 match gs0, hg with
 | [g1, g2, g3], _ => rfl
theorem over : Rows.FnTakenSaid :=
 OpenClaim.holds_of_wide 8 Tryz.f8 rfl rfl rfl rfl rfl rfl rfl ⟨rfl, rfl, rfl, rfl, rfl⟩ rfl rfl rfl rfl rfl (by kernel_rfl) Tryz.func8 (by kernel_rfl)
  (of_decide_eq_true (by kernel_rfl)) (by unfold Func.isWrapper; first | (rw [if_pos (by decide +kernel)]; kernel_rfl) | (rw [if_neg (by decide +kernel)]; exact ⟨rfl, rfl⟩))
  (fun os started H enc _ => lifted os started H enc)
theorem card : Rows.FnTakenCardSaid :=
 Claim7.holds_tied_plain_at .later [] [.data, .data, .data, .sentinel, .sentinel, .sentinel, .sentinel, .sentinel] true (true, "ab0e5451898ba7af3fddb4ece5cff62e140668e4d854a8b8f5ee08cd0b170de1") true
  over (fun _ h => by cases h) (by kernel_rfl) (fun _ h => by cases h) fnTaken_row_tie rfl ⟨rfl, rfl⟩ (by kernel_rfl) rfl
  (fun f fn hf hfn => by
    obtain rfl : f = 8 := Option.some.inj ((show Tryz.prog.funcNamed "loop.example/pub-g03356/laws.FnTaken" = some 8 by kernel_rfl).symm.trans hf) |>.symm
    obtain rfl : fn = Tryz.f8 := (Option.some.inj (Tryz.func8.symm.trans hfn)).symm
    exact ⟨by kernel_rfl, fun j t ht => by
     rw [Tryz.params8] at ht
     have hm : t ∈ [27] := by simpa using Array.mem_of_getElem? ht
     have hall : ([27].all fun u => !Tryz.prog.wantsStandIn u) = true := by kernel_rfl
     exact (show Tryz.prog.wantsStandIn t = false by simpa using List.all_eq_true.1 hall t hm)⟩)
  (by kernel_rfl)
#print axioms card
end Go.Proofs.YtmaffdhcmdhjfaaGreatDoor.FnTaken
