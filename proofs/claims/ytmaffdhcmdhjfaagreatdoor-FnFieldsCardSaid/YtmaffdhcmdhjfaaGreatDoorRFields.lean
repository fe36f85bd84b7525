/- laws.FnFields returns true. FnFields: for every input the law returns true; its conditions: the listed package-level variables read as the program's text lays them (the card ties that). -/
import Derived.Test.YtmaffdhcmdhjfaaGreatDoorNG
import Derived.Deep.RegionHeld3
import Derived.Test.YtmaffdhcmdhjfaaGreatDoorNK
set_option linter.unusedSimpArgs false
set_option linter.unusedVariables false
namespace Go.Proofs.YtmaffdhcmdhjfaaGreatDoor
open Go.RowKit Go.Lib
attribute [local go_sem ↓] execOp_loadCron
set_option maxHeartbeats 6400000 in
set_option maxRecDepth 1000000 in
theorem law_fields (c : CronV) (hO : CronIn c) (w : World) (hI : CronItems w c) (hE : Env w) :
 Calls Tryz.prog 3 #[.agg c.cells] w fun e w' => e = .returned (.bool true) ∧ Ext w w' := by
 have HC : Hid (CronAt (w.alloc (.cells c.cells 27)) w.heap.size c) := cron_alloc w c
 have HX : Hid (Ext w (w.alloc (.cells c.cells 27))) := Ext.alloc _ _
 have HI := Lib.hid hI
 have HO := Lib.hid hO
 clear hI hO
 have Hb0 := Lib.hid HC.out.blk
 go_enter Tryz.func3, Tryz.ntmps3
 go_wp2_with (refine wpList_load_cron rfl _ rfl w.heap.size rfl c Hb0.out ?_)
 go_at_call 12
 refine (fits_any c _).mono ?_
 rintro e w1 ⟨rfl, x1⟩
 have C1 := Lib.hid (HC.out.ext x1)
 have X1 := Lib.hid (HX.out.trans x1)
 have Hb1 := Lib.hid C1.out.blk
 clear x1 Hb0
 go_wp2_with (refine wpList_load_cron rfl _ rfl w.heap.size rfl c Hb1.out ?_)
 go_at_call 13
 refine (right_cron c HO.out _ (HI.out.ext X1.out) (hE.ext X1.out)).mono ?_
 rintro e w2 ⟨rfl, x2⟩
 have C2 := Lib.hid (C1.out.ext x2)
 have X2 := Lib.hid (X1.out.trans x2)
 have Hb2 := Lib.hid C2.out.blk
 clear x2 Hb1
 rcases hR : c.rightB
 ·clear hR
  go_wp2_with fail
  go_ret
  exact ⟨rfl, X2.out⟩
 ·have HR := Lib.hid (right_is hR)
  clear hR
  have HOK := Lib.hid (cron_ok HO.out HR.out.all)
  go_wp2_with (refine wpList_load_cron rfl _ rfl w.heap.size rfl c Hb2.out ?_)
  go_at_call 14
  refine (text_cron c HOK.out _ (HI.out.ext X2.out) (hE.ext X2.out)).mono ?_
  rintro e w3 ⟨rfl, x3⟩
  have C3 := Lib.hid (C2.out.ext x3)
  have X3 := Lib.hid (X2.out.trans x3)
  clear x3 Hb2
  obtain ⟨tx, htx⟩ : ∃ tx, tx = mk c.text := ⟨_, rfl⟩
  have htl : tx.size ≤ 120 := by rw [htx, size_mk]; exact HR.out.len
  have HTX := Lib.hid htx
  rw [← htx]
  clear htx
  have hbt : bytes tx = c.text := by rw [HTX.out, bytes_mk]
  obtain ⟨fs, hf1, hf2, hf3, hf4, hf5, hf6, hf7⟩ := fields_right HR.out
  have HF : Hid (∀ W, Env W → Calls Tryz.prog 15 #[.string tx] W fun e W' => (∃ v, e = .returned (.tuple #[v, .int .i64 (c.p 3).dayN, .int .i64 (c.p 5).weekN, .bool true]) ∧ IntRows W' W.heap.size v (fs.map (·.1))) ∧ Ext W W') := fun W hW => by
   refine (impl_fields tx W (by omega) hW).mono ?_
   rw [hbt, hf1]
   rintro e W' ⟨⟨fs', v, a, b, he, rfl, h3, h5, hR⟩ | ⟨he, _⟩, x⟩
   ·injection he with he
    subst he
    rw [hf5] at h3
    rw [hf6] at h5
    injection h3 with h3
    injection h5 with h5
    subst h3 h5
    exact ⟨⟨v, rfl, hR⟩, x⟩
   ·cases he
  have HV : Hid (∀ W, Env W → Calls Tryz.prog 17 #[.string tx] W fun e W' => e = .returned (.bool true) ∧ Ext W W') := fun W hW => by
   refine (impl_valid tx W (by omega) hW).mono ?_
   rw [hbt, hf2, hf3]
   rintro e W' ⟨rfl, x⟩
   exact ⟨rfl, x⟩
  have HSAME : Hid (∀ i, i < 7 → (c.p i).k < 8 → (fs.map (·.1))[i]? = (c.nums 7)[i]?) := by
   intro i hi hk
   have h1 := hf7 i hi hk
   rw [List.getElem?_map, h1]
   unfold CronV.nums
   rw [List.getElem?_map, List.getElem?_range hi]
   rfl
  have H7 : Hid ((fs.map (·.1)).length = 7) := by show _ = _; simpa using hf4
  have hds := special_cron c (fun h9 => by
   have := right_case (all_right HR.out.all 3 (by decide))
   cases this with
   | common h _ _ => omega
   | last h _ => omega
   | lastWork h _ => omega
   | before _ _ a b => exact ⟨a, b⟩
   | closest h _ => omega
   | lastOf h _ => omega
   | nth h _ => omega)
  have HDS := Lib.hid hds
  obtain ⟨dn, hdn⟩ : ∃ dn, dn = (c.p 3).dayN := ⟨_, rfl⟩
  obtain ⟨wn, hwn⟩ : ∃ wn, wn = (c.p 5).weekN := ⟨_, rfl⟩
  rw [← hdn, ← hwn] at HF HDS
  clear hbt hf1 hf2 hf3 hf4 hf5 hf6 hf7 hds hdn hwn
  go_wp2_with fail
  go_at_call 15
  refine (HF.out _ (hE.ext X3.out)).mono ?_
  rintro e w4 ⟨⟨v4, rfl, hR4⟩, x4⟩
  have C4 := Lib.hid (C3.out.ext x4)
  have X4 := Lib.hid (X3.out.trans x4)
  have Hb4 := Lib.hid C4.out.blk
  obtain ⟨a4, c4, h4⟩ := intRows_len hR4
  rw [H7.out] at h4
  subst h4
  have HR4 := Lib.hid hR4
  clear x4 hR4
  go_wp2_with (refine wpList_load_cron rfl _ rfl w.heap.size rfl c Hb4.out ?_)
  go_at_call 16
  refine (HDS.out _).mono ?_
  rintro e w5 ⟨rfl, x5⟩
  have C5 := Lib.hid (C4.out.ext x5)
  have X5 := Lib.hid (X4.out.trans x5)
  have HR5 := Lib.hid (HR4.out.ext x5)
  clear x5 Hb4
  go_wp2_with fail
  have hS0 : ((loadCron (.pointer (some ⟨w.heap.size, 0, none⟩))).run Tryz.prog w5.drew = .ok (.value (.agg c.cells)) w5.drew ∧ Ext w5 w5.drew) := ⟨(C5.out.ext (Ext.drew _)).whole, Ext.drew _⟩
  have HVs : Hid (∀ W, ((loadCron (.pointer (some ⟨w.heap.size, 0, none⟩))).run Tryz.prog W = .ok (.value (.agg c.cells)) W ∧ Ext w5 W) → Calls Tryz.prog 17 #[.string tx] W fun e W' => e = .returned (.bool true) ∧ ((loadCron (.pointer (some ⟨w.heap.size, 0, none⟩))).run Tryz.prog W' = .ok (.value (.agg c.cells)) W' ∧ Ext w5 W')) := by
   intro W h
   refine (HV.out W (hE.ext (X5.out.trans h.2))).mono ?_
   rintro e W' ⟨rfl, x⟩
   exact ⟨rfl, (C5.out.ext (h.2.trans x)).whole, h.2.trans x⟩
  have HNs : Hid (∀ W, ((loadCron (.pointer (some ⟨w.heap.size, 0, none⟩))).run Tryz.prog W = .ok (.value (.agg c.cells)) W ∧ Ext w5 W) → Calls Tryz.prog 19 #[.agg c.cells] W fun e W' => ∃ v, e = .returned v ∧ IntRows W' 0 v (c.nums 7) ∧ ((loadCron (.pointer (some ⟨w.heap.size, 0, none⟩))).run Tryz.prog W' = .ok (.value (.agg c.cells)) W' ∧ Ext w5 W')) := by
   intro W h
   refine (numbers_cron c ⟨fun j hj => all_right HR.out.all j hj⟩ W (HI.out.ext (X5.out.trans h.2))).mono ?_
   rintro e W' ⟨v, rfl, hr, x⟩
   exact ⟨v, rfl, hr.mono (Nat.zero_le _), (C5.out.ext (h.2.trans x)).whole, h.2.trans x⟩
  have HSs : Hid (∀ W v, IntRows W 0 v (c.nums 7) → ((loadCron (.pointer (some ⟨w.heap.size, 0, none⟩))).run Tryz.prog W = .ok (.value (.agg c.cells)) W ∧ Ext w5 W) → Calls Tryz.prog 18 #[.agg c.cells, .slice a4 7 c4, v] W fun e W' => e = .returned (.bool true) ∧ ((loadCron (.pointer (some ⟨w.heap.size, 0, none⟩))).run Tryz.prog W' = .ok (.value (.agg c.cells)) W' ∧ Ext w5 W')) := by
   intro W v hv h
   refine (same_true c _ v _ _ (fs.map (·.1)) (c.nums 7) H7.out (by simp [CronV.nums]) HSAME.out ?_ W (HR5.out.ext h.2) hv).mono ?_
   ·intro l hl
    simp only [CronV.nums, List.mem_map, List.mem_range] at hl
    obtain ⟨i, hi, rfl⟩ := hl
    exact numsAt_len HR.out.all i hi
   ·rintro e W' ⟨rfl, x⟩
    exact ⟨rfl, (C5.out.ext (h.2.trans x)).whole, h.2.trans x⟩
  go_region_held3 (fun W => ((loadCron (.pointer (some ⟨w.heap.size, 0, none⟩))).run Tryz.prog W = .ok (.value (.agg c.cells)) W ∧ Ext w5 W)) (first | assumption)
   (first
   | (go_at_call 17
      refine (HVs.out _ (by assumption)).mono ?_
      rintro e w6 ⟨rfl, hS1⟩)
   | (go_at_call 19
      refine (HNs.out _ (by assumption)).mono ?_
      rintro e w6 ⟨v6, rfl, hR6, hS1⟩)
   | (go_at_call 18
      refine (HSs.out _ _ (by assumption) (by assumption)).mono ?_
      rintro e w6 ⟨rfl, hS1⟩))
  have HSE := Lib.hid hS1.2
  clear hS1
  go_wp2_with fail
  go_ret
  exact ⟨rfl, X5.out.trans HSE.out⟩
end Go.Proofs.YtmaffdhcmdhjfaaGreatDoor
namespace Go.Proofs.YtmaffdhcmdhjfaaGreatDoor.FnFields
open Go.ChangeShapes Go.WideShapes Go.ChangeAt Go.RowKit
set_option linter.unusedVariables false
theorem door_met (os : Os) (args : Array Value) : laidMetH Tryz.prog laid6 ((World.doorLaid Tryz.prog 119 os).forCall (fun _ _ => 0) ⟨#[], args, []⟩).memory :=
 laidMetH_of_parts3 (fuel := 8) (laidMet_of_run' 8 (by kernel_rfl) (by kernel_rfl)) (by kernel_rfl) (by kernel_rfl)
set_option maxRecDepth 1000000 in
theorem lifted (os : Os) (started : os.Started) (H : Type) (enc : TypeId × Value → H) :
 ReturnsInHanded {} Tryz.checked os 3 .any (fun w args => (Rows.fnFieldsSpec.pre enc Tryz.prog Tryz.f3 [] false w args ∧ laidMetH Tryz.prog laid6 w) ∧ sizedMet enc Tryz.prog Tryz.f3 (OpenSpec.ofChange Rows.fnFieldsSpec) false w args)
  (Rows.fnFieldsSpec.post enc Tryz.prog Tryz.f3 false true false false) := by
 refine returnsInHanded_of_change_and (C := Tryz.checked) (X := fun w _ => laidMetH Tryz.prog laid6 w) (fun _ _ _ hh h => h.of_heap hh) own started (by kernel_rfl) Tryz.func3
  (ChangeSpec.witness_shaped (enc := enc) (C := Tryz.checked) (os := os) (X := fun w _ => laidMetH Tryz.prog laid6 w) false (World.doorLaid Tryz.prog 119 os) #[.agg #[.int .i64 0, .int .i64 0, .int .i64 0, .int .i64 0, .int .i64 0, .slice none 0 0, .int .i64 0, .int .i64 0, .int .i64 0, .int .i64 0, .int .i64 0, .slice none 0 0, .int .i64 0, .int .i64 0, .int .i64 0, .int .i64 0, .int .i64 0, .slice none 0 0, .int .i64 0, .int .i64 0, .int .i64 0, .int .i64 0, .int .i64 0, .slice none 0 0, .int .i64 0, .int .i64 0, .int .i64 0, .int .i64 0, .int .i64 0, .slice none 0 0, .int .i64 0, .int .i64 0, .int .i64 0, .int .i64 0, .int .i64 0, .slice none 0 0, .int .i64 0, .int .i64 0, .int .i64 0, .int .i64 0, .int .i64 0, .slice none 0 0, .bool false]] 16 rfl (World.shaped_of_RefB (by kernel_rfl) (by kernel_rfl)) (by kernel_rfl) (by kernel_rfl) (by kernel_rfl) (door_met os _)) ?_
 intro W base args ds gs before hval0 hW _ _ hL _
 have hval : ∀ (j : Nat) t v, Tryz.f3.params[j]? = some t → args[j]? = some v → Value.okWide Tryz.prog W .any base t v := hval0
 have hW' := hW
 obtain ⟨p, q, hA0, hV0, rfl, hfz, hnd⟩ := hW
 have hA : DataW.TrodAll enc Tryz.prog W 0 (fun _ => true) true Tryz.f3.params.toList args.toList ds p := hA0
 rw [Tryz.params3] at hA hval
 obtain ⟨v0, vs0, d0, ds0, p0, q0, hargs, rfl, rfl, h0, r0⟩ := trodAll_cons hA
 obtain ⟨rfl, rfl, rfl⟩ := trodAll_nil r0
 obtain rfl : args = #[v0] := by cases args; simp_all
 obtain ⟨c, rfl, hcin, hcit⟩ := open_cron (hval 0 27 v0 rfl rfl) h0
 have hg : gs.length = 1 := vars_len _ _ _ hV0
 have hE := env_of6 hL
 refine (law_fields c hcin W hcit hE).mono fun e W' ⟨he, hb⟩ => ?_
 subst he
 refine ⟨_, rfl, law_post hW' hb (by kernel_rfl) (by kernel_rfl) (by kernel_rfl) ?_⟩
 match gs, hg with
 | [g1], _ => rfl
theorem over : Rows.FnFieldsSaid :=
 OpenClaim.holds_of_wide 3 Tryz.f3 rfl rfl rfl rfl rfl rfl rfl ⟨rfl, rfl, rfl, rfl, rfl⟩ rfl rfl rfl rfl rfl (by kernel_rfl) Tryz.func3 (by kernel_rfl)
  (of_decide_eq_true (by kernel_rfl)) (by unfold Func.isWrapper; first | (rw [if_pos (by decide +kernel)]; kernel_rfl) | (rw [if_neg (by decide +kernel)]; exact ⟨rfl, rfl⟩))
  (fun os started H enc _ => lifted os started H enc)
theorem card : Rows.FnFieldsCardSaid :=
 Claim7.holds_tied_plain_at .later [] [.data, .data, .data, .sentinel, .sentinel, .sentinel] true (true, "ab0e5451898ba7af3fddb4ece5cff62e140668e4d854a8b8f5ee08cd0b170de1") true
  over (fun _ h => by cases h) (by kernel_rfl) (fun _ h => by cases h) fnFields_row_tie rfl ⟨rfl, rfl⟩ (by kernel_rfl) rfl
  (fun f fn hf hfn => by
    obtain rfl : f = 3 := Option.some.inj ((show Tryz.prog.funcNamed "loop.example/pub-g03356/laws.FnFields" = some 3 by kernel_rfl).symm.trans hf) |>.symm
    obtain rfl : fn = Tryz.f3 := (Option.some.inj (Tryz.func3.symm.trans hfn)).symm
    exact ⟨by kernel_rfl, fun j t ht => by
     rw [Tryz.params3] at ht
     have hm : t ∈ [27] := by simpa using Array.mem_of_getElem? ht
     have hall : ([27].all fun u => !Tryz.prog.wantsStandIn u) = true := by kernel_rfl
     exact (show Tryz.prog.wantsStandIn t = false by simpa using List.all_eq_true.1 hall t hm)⟩)
  (by kernel_rfl)
#print axioms card
end Go.Proofs.YtmaffdhcmdhjfaaGreatDoor.FnFields
