/- laws.FnDescribed returns true. FnDescribed: for every input the law returns true; its conditions: the listed package-level variables read as the program's text lays them (the card ties that). -/
import Derived.Test.YtmaffdhcmdhjfaaGreatDoorNJ
import Derived.Test.YtmaffdhcmdhjfaaGreatDoorNK
import Derived.Test.YtmaffdhcmdhjfaaGreatDoorNY
set_option linter.unusedSimpArgs false
set_option linter.unusedVariables false
namespace Go.Proofs.YtmaffdhcmdhjfaaGreatDoor
open Go.RowKit Go.Lib
attribute [local go_sem ↓] execOp_loadCron
set_option maxHeartbeats 6400000 in
set_option maxRecDepth 1000000 in
theorem law_described (c : CronV) (hO : CronIn c) (ga : Option Addr) (cap : Nat) (gs : List Int) (hgl : gs.length ≤ 9223372036854775807) (hgb : ∀ z ∈ gs, Joins.In64 z) (off : Int) (w : World) (hI : CronItems w c) (hN : NumsAt w ga gs) (hE : Env w) :
 Calls Tryz.prog 5 #[.agg c.cells, .slice ga gs.length cap, .int .i64 off] w fun e w' => e = .returned (.bool true) ∧ Ext w w' := by
 have HC : Hid (CronAt (w.alloc (.cells c.cells 27)) w.heap.size c) := cron_alloc w c
 have HX : Hid (Ext w (w.alloc (.cells c.cells 27))) := Ext.alloc _ _
 have hld := HC.out.whole
 have HI := Lib.hid hI
 have HO := Lib.hid hO
 have HNN := Lib.hid hN
 have HGB := Lib.hid hgb
 obtain ⟨n, hn⟩ : ∃ n, n = gs.length := ⟨_, rfl⟩
 have HNL := Lib.hid hn
 rw [← hn] at hgl ⊢
 clear hI hO hN hgb hn
 go_enter Tryz.func5, Tryz.ntmps5
 go_wp2_with fail
 go_at_call 12
 refine (fits_any c _).mono ?_
 rintro e w1 ⟨rfl, x1⟩
 have C1 := Lib.hid (HC.out.ext x1)
 have X1 := Lib.hid (HX.out.trans x1)
 clear x1 hld
 by_cases hbig : 2147483647 < n
 ·go_wp2_with fail
  go_ret
  exact ⟨rfl, X1.out⟩
 ·have hld := C1.out.whole
  go_wp2_with fail
  go_at_call 22
  refine (asked_any c HO.out off 31536000000000000 _ (HI.out.ext X1.out) (hE.ext X1.out)).mono ?_
  rintro e w2 ⟨rfl, x2⟩
  have C2 := Lib.hid (C1.out.ext x2)
  have X2 := Lib.hid (X1.out.trans x2)
  clear x2 hld
  rcases hR : askedB c off 31536000000000000
  ·clear hR
   go_wp2_with fail
   go_ret
   exact ⟨rfl, X2.out⟩
  ·have HAS := Lib.hid (asked_is hR)
   have HR := Lib.hid HAS.out.right
   clear hR
   by_cases h20 : 20 < n
   ·go_wp2_with fail
    go_ret
    exact ⟨rfl, X2.out⟩
   ·go_wp2_with fail
    go_loopw [7] (fun i wr => ∃ j : Nat, j ≤ n ∧ i = .int .i64 j ∧ Hid (∀ z ∈ gs.take j, 0 ≤ z) ∧ wr = w2)
     (fun i _ => n - (RowKit.intOf i).toNat)
    case atStart => exact ⟨0, Nat.zero_le _, rfl, by show ∀ z ∈ _, _; simp, rfl⟩
    case round =>
     obtain ⟨j, hj, rfl, HZ, rfl⟩ := hrel
     by_cases hlt : j < n
     ·obtain ⟨z, hz⟩ : ∃ z, gs[j]? = some z := ⟨_, List.getElem?_eq_getElem (by rw [← HNL.out]; exact hlt)⟩
      obtain ⟨gb, go, rfl, hgc⟩ := HNN.out (by intro e; rw [e] at hz; simp at hz)
      have cz := X2.out.cell (hgc j z hz)
      have HZ2 : Hid (0 ≤ z → ∀ y ∈ gs.take (j + 1), 0 ≤ y) := by
       intro h0 y hy
       obtain ⟨hj2, hz2⟩ := List.getElem?_eq_some_iff.mp hz
       rw [List.take_succ_eq_append_getElem hj2] at hy
       simp only [List.mem_append, List.mem_singleton] at hy
       rcases hy with hy | rfl
       ·exact HZ.out y hy
       ·rw [hz2]; exact h0
      clear hgc hz
      by_cases hz0 : z < 0
      ·go_wp2_with fail
       go_ret
       exact ⟨rfl, X2.out⟩
      ·have hz1 : 0 ≤ z := by omega
       have HZ3 := Lib.hid (HZ2.out hz1)
       go_wp2_with fail
       go_roundw
       case rel => exact ⟨j + 1, by omega, by go_num, HZ3.out, by first | rfl | trivial⟩
       case measure => simp [RowKit.intOf]; omega
     ·have HG : Hid (GapsIn gs) := by
       have e : gs.take j = gs := List.take_of_length_le (by rw [← HNL.out]; omega)
       have hz := HZ.out
       rw [e] at hz
       exact ⟨by rw [← HNL.out]; omega, fun z hz' => ⟨hz z hz', (HGB.out z hz').2⟩⟩
      have HSP : Hid (∀ W, Ext w W → Calls Tryz.prog 20 #[.agg c.cells, .slice ga n cap] W fun e w' => e = .returned (.string (mk (spacedL gs c.text))) ∧ Ext W w') := fun W hW => by
       rw [HNL.out]
       exact spaced_cron c (cron_ok HO.out HR.out.all) ga cap gs HG.out W (HI.out.ext hW) (HNN.out.ext hW) (hE.ext hW) HR.out.len
      have hld := C2.out.whole
      clear HZ
      go_wp2_with fail
      go_at_call 20
      refine (HSP.out _ X2.out).mono ?_
      rintro e w3 ⟨rfl, x3⟩
      have C3 := Lib.hid (C2.out.ext x3)
      have X3 := Lib.hid (X2.out.trans x3)
      clear x3 hld
      obtain ⟨tx, htx⟩ : ∃ tx, tx = mk (spacedL gs c.text) := ⟨_, rfl⟩
      have hszb : tx.size ≤ 1000 := by
       have h1 := spaceGo_bd gs c.text
       have h2 := gapL_len gs (spaceGo gs c.text).2
       have h3 := HR.out.len
       rw [htx, size_mk]
       unfold spacedL
       rw [List.length_append]
       omega
      have HTX := Lib.hid htx
      rw [← htx]
      clear htx
      by_cases h120 : 120 < tx.size
      ·go_wp2_with fail
       go_ret
       exact ⟨rfl, X3.out⟩
      ·have hbt : bytes tx = spacedL gs c.text := by rw [HTX.out, bytes_mk]
       have hbl : (spacedL gs c.text).length ≤ 120 := by rw [← hbt, bytes_length]; omega
       obtain ⟨fs, hf1, hf2, hf3, htr, _⟩ := spaced_fields HR.out gs hbl
       have hfl : implO (spacedL gs c.text) = some c.fieldsL := by
        have h1 := (fields_exact HR.out).2.1
        unfold exprO at h1
        rw [trim_text HR.out.all] at h1
        unfold implO exprO
        rw [hf3, if_pos rfl, htr]
        exact h1
       obtain ⟨ct, hct⟩ : ∃ ct, ct = mk c.text := ⟨_, rfl⟩
       obtain ⟨pl, hpl⟩ : ∃ pl, pl = placeB off := ⟨_, rfl⟩
       have hcts : ct.size ≤ 120 := by rw [hct, size_mk]; exact HR.out.len
       have hpls : pl.size ≤ 5 := by rw [hpl]; unfold placeB; split <;> decide
       have HD : Hid (∀ W, Ext w W → Calls Tryz.prog 23 #[.string tx, .int .i64 off] W fun e W' => e = .returned (.tuple #[.string (descB ct pl), .bool true]) ∧ Ext W W') := fun W hW => by
        have := described_fine tx off c.fieldsL W (by omega) HAS.out.n0 HAS.out.n1 (by rw [hbt]; exact hfl) (by rw [taken_law HR.out]; exact HAS.out.taken) (hE.ext hW)
        rw [hbt, htr, ← hct, ← hpl] at this
        exact this
       have HTE : Hid (∀ W, Ext w W → Calls Tryz.prog 14 #[.agg c.cells] W fun e W' => e = .returned (.string ct) ∧ Ext W W') := fun W hW => by
        rw [hct]
        exact text_cron c (cron_ok HO.out HR.out.all) W (HI.out.ext hW) (hE.ext hW)
       have HPN : Hid (∀ W, Calls Tryz.prog 24 #[.int .i64 off] W fun e W' => e = .returned (.string pl) ∧ W = W') := fun W => by
        rw [hpl]; exact place_name off W
       clear hbt hbl hf1 hf2 hf3 htr hfl hct hpl
       go_wp2_with fail
       go_at_call 23
       refine (HD.out _ X3.out).mono ?_
       rintro e w4 ⟨rfl, x4⟩
       have C4 := Lib.hid (C3.out.ext x4)
       have X4 := Lib.hid (X3.out.trans x4)
       have hld := C4.out.whole
       clear x4
       have hcs : ((descB ct pl).toList == ((⟨#[67, 114, 111, 110, 84, 114, 105, 103, 103, 101, 114, 58, 58]⟩ : ByteArray) ++ ct ++ (⟨#[58, 58]⟩ : ByteArray) ++ pl).toList) = true := by
        unfold descB; simp
       generalize descB ct pl = dd at *
       go_wp2_with fail
       go_at_call 14
       refine (HTE.out _ X4.out).mono ?_
       rintro e w5 ⟨rfl, x5⟩
       have X5 := Lib.hid (X4.out.trans x5)
       clear x5 hld
       go_wp2_with fail
       go_at_call 24
       refine (HPN.out _).mono ?_
       rintro e w6 ⟨rfl, rfl⟩
       go_wp2_with fail
       go_ret
       exact ⟨rfl, X5.out⟩
end Go.Proofs.YtmaffdhcmdhjfaaGreatDoor
namespace Go.Proofs.YtmaffdhcmdhjfaaGreatDoor.FnDescribed
open Go.ChangeShapes Go.WideShapes Go.ChangeAt Go.RowKit
set_option linter.unusedVariables false
theorem door_met (os : Os) (args : Array Value) : laidMetH Tryz.prog laid7 ((World.doorLaid Tryz.prog 119 os).forCall (fun _ _ => 0) ⟨#[], args, []⟩).memory :=
 laidMetH_of_parts3 (fuel := 8) (laidMet_of_run' 8 (by kernel_rfl) (by kernel_rfl)) (by kernel_rfl) (by kernel_rfl)
set_option maxRecDepth 1000000 in
theorem lifted (os : Os) (started : os.Started) (H : Type) (enc : TypeId × Value → H) :
 ReturnsInHanded {} Tryz.checked os 5 .any (fun w args => (Rows.fnDescribedSpec.pre enc Tryz.prog Tryz.f5 [] false w args ∧ laidMetH Tryz.prog laid7 w) ∧ sizedMet enc Tryz.prog Tryz.f5 (OpenSpec.ofChange Rows.fnDescribedSpec) false w args)
  (Rows.fnDescribedSpec.post enc Tryz.prog Tryz.f5 false true false false) := by
 refine returnsInHanded_of_change_and (C := Tryz.checked) (X := fun w _ => laidMetH Tryz.prog laid7 w) (fun _ _ _ hh h => h.of_heap hh) own started (by kernel_rfl) Tryz.func5
  (ChangeSpec.witness_shaped (enc := enc) (C := Tryz.checked) (os := os) (X := fun w _ => laidMetH Tryz.prog laid7 w) false (World.doorLaid Tryz.prog 119 os) #[.agg #[.int .i64 0, .int .i64 0, .int .i64 0, .int .i64 0, .int .i64 0, .slice none 0 0, .int .i64 0, .int .i64 0, .int .i64 0, .int .i64 0, .int .i64 0, .slice none 0 0, .int .i64 0, .int .i64 0, .int .i64 0, .int .i64 0, .int .i64 0, .slice none 0 0, .int .i64 0, .int .i64 0, .int .i64 0, .int .i64 0, .int .i64 0, .slice none 0 0, .int .i64 0, .int .i64 0, .int .i64 0, .int .i64 0, .int .i64 0, .slice none 0 0, .int .i64 0, .int .i64 0, .int .i64 0, .int .i64 0, .int .i64 0, .slice none 0 0, .int .i64 0, .int .i64 0, .int .i64 0, .int .i64 0, .int .i64 0, .slice none 0 0, .bool false], .slice none 0 0, .int .i64 0] 16 rfl (World.shaped_of_RefB (by kernel_rfl) (by kernel_rfl)) (by kernel_rfl) (by kernel_rfl) (by kernel_rfl) (door_met os _)) ?_
 intro W base args ds gs0 before hval0 hW _ _ hL _
 have hval : ∀ (j : Nat) t v, Tryz.f5.params[j]? = some t → args[j]? = some v → Value.okWide Tryz.prog W .any base t v := hval0
 have hW' := hW
 obtain ⟨p, q, hA0, hV0, rfl, hfz, hnd⟩ := hW
 have hA : DataW.TrodAll enc Tryz.prog W 0 (fun _ => true) true Tryz.f5.params.toList args.toList ds p := hA0
 rw [Tryz.params5] at hA hval
 obtain ⟨v0, vs0, d0, ds0, p0, q0, hargs, rfl, rfl, h0, r0⟩ := trodAll_cons hA
 obtain ⟨v1, vs1, d1, ds1, p1, q1, rfl, rfl, rfl, h1, r1⟩ := trodAll_cons r0
 obtain ⟨v2, vs2, d2, ds2, p2, q2, rfl, rfl, rfl, h2, r2⟩ := trodAll_cons r1
 obtain ⟨rfl, rfl, rfl⟩ := trodAll_nil r2
 obtain rfl : args = #[v0, v1, v2] := by cases args; simp_all
 obtain ⟨c, rfl, hcin, hcit⟩ := open_cron (hval 0 27 v0 rfl rfl) h0
 obtain ⟨ga, cap, gs, rfl, hgl, hgb, hgn⟩ := open_nums (hval 1 38 v1 rfl rfl) h1
 obtain ⟨off, rfl, rfl, rfl, w2⟩ := open_int Tryz.underlying3 (hval 2 3 v2 rfl rfl) h2
 have hg : gs0.length = 2 := vars_len _ _ _ hV0
 have hE := env_of7 hL
 refine (law_described c hcin ga cap gs hgl hgb off W hcit hgn hE).mono fun e W' ⟨he, hb⟩ => ?_
 subst he
 refine ⟨_, rfl, law_post hW' hb (by kernel_rfl) (by kernel_rfl) (by kernel_rfl) ?_⟩
 match gs0, hg with
 | [g1, g2], _ => rfl
theorem over : Rows.FnDescribedSaid :=
 OpenClaim.holds_of_wide 5 Tryz.f5 rfl rfl rfl rfl rfl rfl rfl ⟨rfl, rfl, rfl, rfl, rfl⟩ rfl rfl rfl rfl rfl (by kernel_rfl) Tryz.func5 (by kernel_rfl)
  (of_decide_eq_true (by kernel_rfl)) (by unfold Func.isWrapper; first | (rw [if_pos (by decide +kernel)]; kernel_rfl) | (rw [if_neg (by decide +kernel)]; exact ⟨rfl, rfl⟩))
  (fun os started H enc _ => lifted os started H enc)
theorem card : Rows.FnDescribedCardSaid :=
 Claim7.holds_tied_plain_at .later [] [.data, .data, .data, .sentinel, .sentinel, .sentinel, .sentinel] true (true, "ab0e5451898ba7af3fddb4ece5cff62e140668e4d854a8b8f5ee08cd0b170de1") true
  over (fun _ h => by cases h) (by kernel_rfl) (fun _ h => by cases h) fnDescribed_row_tie rfl ⟨rfl, rfl⟩ (by kernel_rfl) rfl
  (fun f fn hf hfn => by
    obtain rfl : f = 5 := Option.some.inj ((show Tryz.prog.funcNamed "loop.example/pub-g03356/laws.FnDescribed" = some 5 by kernel_rfl).symm.trans hf) |>.symm
    obtain rfl : fn = Tryz.f5 := (Option.some.inj (Tryz.func5.symm.trans hfn)).symm
    exact ⟨by kernel_rfl, fun j t ht => by
     rw [Tryz.params5] at ht
     have hm : t ∈ [27, 38, 3] := by simpa using Array.mem_of_getElem? ht
     have hall : ([27, 38, 3].all fun u => !Tryz.prog.wantsStandIn u) = true := by kernel_rfl
     exact (show Tryz.prog.wantsStandIn t = false by simpa using List.all_eq_true.1 hall t hm)⟩)
  (by kernel_rfl)
#print axioms card
end Go.Proofs.YtmaffdhcmdhjfaaGreatDoor.FnDescribed
