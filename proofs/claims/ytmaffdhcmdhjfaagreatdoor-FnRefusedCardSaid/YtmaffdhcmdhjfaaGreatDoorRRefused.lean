/- impl.trigger, impl.Next at a text that is no expression; laws.FnRefused returns true. FnRefused: for every input the law returns true; its conditions: the listed package-level variables read as the program's text lays them (the card ties that). -/
import Derived.Test.YtmaffdhcmdhjfaaGreatDoorNZ
import Derived.Test.YtmaffdhcmdhjfaaGreatDoorNH
import Derived.Test.YtmaffdhcmdhjfaaGreatDoorNK
set_option linter.unusedSimpArgs false
set_option linter.unusedVariables false
namespace Go.Proofs.YtmaffdhcmdhjfaaGreatDoor
open Go.RowKit Go.Lib
attribute [local go_sem ↓] execOp_loadCron
set_option maxHeartbeats 1600000 in
theorem trigger_none (s : ByteArray) (w : World) (hs : s.size ≤ 120) (hT : isTextB (bytes s) = true) (hX : exprO (bytes s) = none) (hE : Env w) :
 Calls Tryz.prog 45 #[.string s, .int .i64 0] w fun e w' => e = .returned (.tuple #[.pointer none, .int .i64 2]) ∧ Ext w w' := by
 have HT := Lib.hid hT
 have HX := Lib.hid hX
 clear hT hX
 go_enter Tryz.func45, Tryz.ntmps45
 go_wp2_with fail
 go_at_call 38
 refine (is_text s _ (by omega)).mono ?_
 rintro e w1 ⟨rfl, rfl⟩
 rw [HT.out]
 go_wp2_with fail
 go_at_call 64
 refine (is_place 0 _).mono ?_
 rintro e w1 ⟨rfl, rfl⟩
 rw [show (decide ((-1440 : Int) ≤ 0) && decide ((0 : Int) ≤ 1440)) = true by decide]
 go_wp2_with fail
 go_at_call 66
 refine (place_any 0 _ (by omega) (by omega)).mono ?_
 rintro e w2 ⟨rfl, hL, hx2⟩
 have HL := Lib.hid hL
 go_wp2_with fail
 go_at_call 65
 refine (new_cron s _ _ _ _ _ (by omega) HL.out (hE.ext hx2)).mono ?_
 rintro e w3 ⟨⟨fs', v, hf, rfl, hTr⟩ | ⟨hf, t, p, rfl⟩, hx3⟩
 ·rw [HX.out] at hf; cases hf
 ·have HX3 := Lib.hid (hx2.trans hx3)
  clear hf hL hx2 hx3
  go_wp2_with fail
  go_ret2
  exact ⟨rfl, HX3.out⟩
set_option maxHeartbeats 1600000 in
theorem next_none (s : ByteArray) (prev : Int) (w : World) (hs : s.size ≤ 120) (hT : isTextB (bytes s) = true) (hX : exprO (bytes s) = none) (hE : Env w) :
 Calls Tryz.prog 28 #[.string s, .int .i64 0, .int .i64 prev] w fun e w' => e = .returned (.tuple #[.int .i64 0, .int .i64 2]) ∧ Ext w w' := by
 have HT := Lib.hid hT
 have HX := Lib.hid hX
 clear hT hX
 go_enter Tryz.func28, Tryz.ntmps28
 go_wp2_with fail
 go_at_call 45
 refine (trigger_none s _ hs HT.out HX.out hE).mono ?_
 rintro e w1 ⟨rfl, x1⟩
 go_wp2_with fail
 go_ret2
 exact ⟨rfl, x1⟩
set_option maxHeartbeats 3200000 in
set_option maxRecDepth 1000000 in
theorem law_refused (c : CronV) (hO : CronIn c) (f how : Int) (hf : Joins.In64 f) (hh : Joins.In64 how) (w : World) (hI : CronItems w c) (hE : Env w) :
 Calls Tryz.prog 10 #[.agg c.cells, .int .i64 f, .int .i64 how] w fun e w' => e = .returned (.bool true) ∧ Ext w w' := by
 have HC : Hid (CronAt (w.alloc (.cells c.cells 27)) w.heap.size c) := cron_alloc w c
 have HX : Hid (Ext w (w.alloc (.cells c.cells 27))) := Ext.alloc _ _
 have hld := HC.out.whole
 have HI := Lib.hid hI
 have HO := Lib.hid hO
 have HW : Hid (∀ W, Ext w W → Calls Tryz.prog 33 #[.agg c.cells, .int .i64 f, .int .i64 how] W (WrongPost W (wrongO c f how))) := fun W hW => wrong_any c hO f how W (hI.ext hW) (hE.ext hW)
 have HL : Hid (∀ t, wrongO c f how = some t → t.length ≤ 120 → isTextB t = true ∧ exprO t = none) := fun t => wrong_law
 generalize wrongO c f how = R at HW HL
 clear hI hO hf hh
 go_enter Tryz.func10, Tryz.ntmps10
 go_wp2_with fail
 go_at_call 12
 refine (fits_any c _).mono ?_
 rintro e w1 ⟨rfl, x1⟩
 have C1 := Lib.hid (HC.out.ext x1)
 have X1 := Lib.hid (HX.out.trans x1)
 clear x1 hld
 have hld := C1.out.whole
 go_wp2_with fail
 go_at_call 33
 refine (HW.out _ X1.out).mono ?_
 rintro e w2 ⟨⟨t, ht, rfl⟩ | ⟨ht, rfl⟩, x2⟩
 ·have X2 := Lib.hid (X1.out.trans x2)
  have HLt := Lib.hid (HL.out t ht)
  clear x2 hld ht HL HW
  obtain ⟨tb, htb⟩ : ∃ tb, tb = mk t := ⟨_, rfl⟩
  have HTB : Hid (bytes tb = t) := by show _ = _; rw [htb, bytes_mk]
  have HTS : Hid (tb.size = t.length) := by show _ = _; rw [htb, size_mk]
  rw [← htb]
  clear htb
  by_cases h120 : 120 < tb.size
  ·go_wp2_with fail
   go_ret
   exact ⟨rfl, X2.out⟩
  ·have hl2 := HLt.out (by rw [← HTS.out]; omega)
   have hs : tb.size ≤ 120 := by omega
   obtain ⟨hT, hX⟩ := hl2
   rw [← HTB.out] at hT hX
   have hIm : implO (bytes tb) = none := by unfold implO; rw [hT, if_pos rfl]; exact hX
   have HF : Hid (∀ W, Env W → Calls Tryz.prog 15 #[.string tb] W fun e W' => (∃ v a b, e = .returned (.tuple #[v, .int .i64 a, .int .i64 b, .bool false])) ∧ Ext W W') := fun W hW => by
    refine (impl_fields tb W (by omega) hW).mono ?_
    rw [hIm]
    rintro e W' ⟨⟨fs', v, a, b, he, _⟩ | ⟨_, rfl⟩, x⟩
    ·cases he
    ·exact ⟨⟨_, _, _, rfl⟩, x⟩
   have HV : Hid (∀ W, Env W → Calls Tryz.prog 17 #[.string tb] W fun e W' => e = .returned (.bool false) ∧ Ext W W') := fun W hW => by
    refine (impl_valid tb W (by omega) hW).mono ?_
    rw [hX, hT]
    rintro e W' ⟨rfl, x⟩
    exact ⟨rfl, x⟩
   have HN : Hid (∀ W, Env W → Calls Tryz.prog 28 #[.string tb, .int .i64 0, .int .i64 31536000000000000] W fun e W' => e = .returned (.tuple #[.int .i64 0, .int .i64 2]) ∧ Ext W W') := fun W hW =>
    next_none tb _ W (by omega) hT hX hW
   clear hT hX hIm HLt
   go_wp2_with fail
   go_at_call 15
   refine (HF.out _ (hE.ext X2.out)).mono ?_
   rintro e w3 ⟨⟨v, a, b, rfl⟩, x3⟩
   have X3 := Lib.hid (X2.out.trans x3)
   clear x3
   go_wp2_with fail
   go_at_call 28
   refine (HN.out _ (hE.ext X3.out)).mono ?_
   rintro e w4 ⟨rfl, x4⟩
   have X4 := Lib.hid (X3.out.trans x4)
   clear x4
   go_wp2_with fail
   go_at_call 17
   refine (HV.out _ (hE.ext X4.out)).mono ?_
   rintro e w5 ⟨rfl, x5⟩
   have X5 := Lib.hid (X4.out.trans x5)
   clear x5
   go_wp2_with fail
   go_ret
   exact ⟨rfl, X5.out⟩
 ·have X2 := Lib.hid (X1.out.trans x2)
  clear x2 hld ht HL HW
  go_wp2_with fail
  go_ret
  exact ⟨rfl, X2.out⟩
end Go.Proofs.YtmaffdhcmdhjfaaGreatDoor
namespace Go.Proofs.YtmaffdhcmdhjfaaGreatDoor.FnRefused
open Go.ChangeShapes Go.WideShapes Go.ChangeAt Go.RowKit
set_option linter.unusedVariables false
theorem door_met (os : Os) (args : Array Value) : laidMetH Tryz.prog laid8 ((World.doorLaid Tryz.prog 119 os).forCall (fun _ _ => 0) ⟨#[], args, []⟩).memory :=
 laidMetH_of_parts3 (fuel := 8) (laidMet_of_run' 8 (by kernel_rfl) (by kernel_rfl)) (by kernel_rfl) (by kernel_rfl)
set_option maxRecDepth 1000000 in
theorem lifted (os : Os) (started : os.Started) (H : Type) (enc : TypeId × Value → H) :
 ReturnsInHanded {} Tryz.checked os 10 .any (fun w args => (Rows.fnRefusedSpec.pre enc Tryz.prog Tryz.f10 [] false w args ∧ laidMetH Tryz.prog laid8 w) ∧ sizedMet enc Tryz.prog Tryz.f10 (OpenSpec.ofChange Rows.fnRefusedSpec) false w args)
  (Rows.fnRefusedSpec.post enc Tryz.prog Tryz.f10 false true false false) := by
 refine returnsInHanded_of_change_and (C := Tryz.checked) (X := fun w _ => laidMetH Tryz.prog laid8 w) (fun _ _ _ hh h => h.of_heap hh) own started (by kernel_rfl) Tryz.func10
  (ChangeSpec.witness_shaped (enc := enc) (C := Tryz.checked) (os := os) (X := fun w _ => laidMetH Tryz.prog laid8 w) false (World.doorLaid Tryz.prog 119 os) #[.agg #[.int .i64 0, .int .i64 0, .int .i64 0, .int .i64 0, .int .i64 0, .slice none 0 0, .int .i64 0, .int .i64 0, .int .i64 0, .int .i64 0, .int .i64 0, .slice none 0 0, .int .i64 0, .int .i64 0, .int .i64 0, .int .i64 0, .int .i64 0, .slice none 0 0, .int .i64 0, .int .i64 0, .int .i64 0, .int .i64 0, .int .i64 0, .slice none 0 0, .int .i64 0, .int .i64 0, .int .i64 0, .int .i64 0, .int .i64 0, .slice none 0 0, .int .i64 0, .int .i64 0, .int .i64 0, .int .i64 0, .int .i64 0, .slice none 0 0, .int .i64 0, .int .i64 0, .int .i64 0, .int .i64 0, .int .i64 0, .slice none 0 0, .bool false], .int .i64 0, .int .i64 0] 16 rfl (World.shaped_of_RefB (by kernel_rfl) (by kernel_rfl)) (by kernel_rfl) (by kernel_rfl) (by kernel_rfl) (door_met os _)) ?_
 intro W base args ds gs0 before hval0 hW _ _ hL _
 have hval : ∀ (j : Nat) t v, Tryz.f10.params[j]? = some t → args[j]? = some v → Value.okWide Tryz.prog W .any base t v := hval0
 have hW' := hW
 obtain ⟨p, q, hA0, hV0, rfl, hfz, hnd⟩ := hW
 have hA : DataW.TrodAll enc Tryz.prog W 0 (fun _ => true) true Tryz.f10.params.toList args.toList ds p := hA0
 rw [Tryz.params10] at hA hval
 obtain ⟨v0, vs0, d0, ds0, p0, q0, hargs, rfl, rfl, h0, r0⟩ := trodAll_cons hA
 obtain ⟨v1, vs1, d1, ds1, p1, q1, rfl, rfl, rfl, h1, r1⟩ := trodAll_cons r0
 obtain ⟨v2, vs2, d2, ds2, p2, q2, rfl, rfl, rfl, h2, r2⟩ := trodAll_cons r1
 obtain ⟨rfl, rfl, rfl⟩ := trodAll_nil r2
 obtain rfl : args = #[v0, v1, v2] := by cases args; simp_all
 obtain ⟨c, rfl, hcin, hcit⟩ := open_cron (hval 0 27 v0 rfl rfl) h0
 obtain ⟨f, rfl, rfl, rfl, w1⟩ := open_int Tryz.underlying3 (hval 1 3 v1 rfl rfl) h1
 obtain ⟨how, rfl, rfl, rfl, w2⟩ := open_int Tryz.underlying3 (hval 2 3 v2 rfl rfl) h2
 have hg : gs0.length = 3 := vars_len _ _ _ hV0
 have hE := (env_of8 hL).1
 refine (law_refused c hcin f how (in64_of_wf w1) (in64_of_wf w2) W hcit hE).mono fun e W' ⟨he, hb⟩ => ?_
 subst he
 refine ⟨_, rfl, law_post hW' hb (by kernel_rfl) (by kernel_rfl) (by kernel_rfl) ?_⟩
 match gs0, hg with
 | [g1, g2, g3], _ => rfl
theorem over : Rows.FnRefusedSaid :=
 OpenClaim.holds_of_wide 10 Tryz.f10 rfl rfl rfl rfl rfl rfl rfl ⟨rfl, rfl, rfl, rfl, rfl⟩ rfl rfl rfl rfl rfl (by kernel_rfl) Tryz.func10 (by kernel_rfl)
  (of_decide_eq_true (by kernel_rfl)) (by unfold Func.isWrapper; first | (rw [if_pos (by decide +kernel)]; kernel_rfl) | (rw [if_neg (by decide +kernel)]; exact ⟨rfl, rfl⟩))
  (fun os started H enc _ => lifted os started H enc)
theorem card : Rows.FnRefusedCardSaid :=
 Claim7.holds_tied_plain_at .later [] [.data, .data, .data, .sentinel, .sentinel, .sentinel, .sentinel, .sentinel] true (true, "ab0e5451898ba7af3fddb4ece5cff62e140668e4d854a8b8f5ee08cd0b170de1") true
  over (fun _ h => by cases h) (by kernel_rfl) (fun _ h => by cases h) fnRefused_row_tie rfl ⟨rfl, rfl⟩ (by kernel_rfl) rfl
  (fun f fn hf hfn => by
    obtain rfl : f = 10 := Option.some.inj ((show Tryz.prog.funcNamed "loop.example/pub-g03356/laws.FnRefused" = some 10 by kernel_rfl).symm.trans hf) |>.symm
    obtain rfl : fn = Tryz.f10 := (Option.some.inj (Tryz.func10.symm.trans hfn)).symm
    exact ⟨by kernel_rfl, fun j t ht => by
     rw [Tryz.params10] at ht
     have hm : t ∈ [27, 3, 3] := by simpa using Array.mem_of_getElem? ht
     have hall : ([27, 3, 3].all fun u => !Tryz.prog.wantsStandIn u) = true := by kernel_rfl
     exact (show Tryz.prog.wantsStandIn t = false by simpa using List.all_eq_true.1 hall t hm)⟩)
  (by kernel_rfl)
#print axioms card
end Go.Proofs.YtmaffdhcmdhjfaaGreatDoor.FnRefused
