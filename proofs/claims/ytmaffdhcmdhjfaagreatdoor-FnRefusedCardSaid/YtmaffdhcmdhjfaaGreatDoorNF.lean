/- spec.numbers. spec.numbers: lists, and the rest. spec.Numbers. spec.SameNumbers, of rows that are the same; zzFits1. -/
import Derived.Test.YtmaffdhcmdhjfaaGreatDoorNE
set_option linter.unusedSimpArgs false
set_option linter.unusedVariables false
namespace Go.Proofs.YtmaffdhcmdhjfaaGreatDoor
open Go.RowKit Go.Lib
structure NumS (w : World) (k a b s : Int) (W : World) : Prop where
 bx : Boxed w k a b s W
 out : Ints W w.heap.size (.slice (some ⟨w.heap.size + 1, 0, none⟩) 0 0) []
theorem NumS.step {w : World} {k a b s : Int} {W W' : World} (h : NumS w k a b s W) (x : Ext W W') : NumS w k a b s W' := ⟨h.bx.step x, h.out.ext x⟩
theorem steps_prefix (a s : Int) (k : Nat) : (List.range (k + 1)).map (fun i : Nat => a + s * (i : Int)) = (List.range k).map (fun i : Nat => a + s * (i : Int)) ++ [a + s * (k : Int)] := by
 rw [List.range_succ, List.map_append]; rfl
def NumPost (w : World) (l : List Int) (en : Ending) (w' : World) : Prop := ∃ v, en = .returned v ∧ Ints w' w.heap.size v l ∧ Ext w w'
theorem num_post {w : World} {l l' : List Int} {v : Value} {w' : World} (h : Ints w' w.heap.size v l') (e : l = l') (x : Ext w w') : NumPost w l (.returned v) w' := ⟨v, rfl, by rw [e]; exact h, x⟩
set_option maxHeartbeats 6400000 in
set_option maxRecDepth 1000000 in
theorem numbers_2 (f : Nat) (hf : f < 7) (a b s n : Int) (it : Value) (hh : leastF f ≤ a ∧ a ≤ mostF f) (w : World) :
 Calls Tryz.prog 42 #[.int .i64 f, .agg #[.int .i64 2, .int .i64 a, .int .i64 b, .int .i64 s, .int .i64 n, it]] w (NumPost w (numsA f 2 a b s)) := by
 obtain ⟨i0, hi0, hz0, hz1, hz2⟩ := info_parts Tryz.info3
 obtain ⟨R, hR⟩ : ∃ R, R = numsA f 2 a b s := ⟨_, rfl⟩
 rw [← hR]
 obtain ⟨lo, hlo⟩ : ∃ lo, lo = leastF f := ⟨_, rfl⟩
 obtain ⟨hi, hhi⟩ : ∃ hi, hi = mostF f := ⟨_, rfl⟩
 have hlo0 : 0 ≤ lo ∧ lo ≤ 1970 := by rw [hlo]; exact least_bd f
 have hhi0 : 7 ≤ hi ∧ hi ≤ 2199 := by rw [hhi]; exact most_bd f
 have hlh : lo ≤ hi := by rw [hlo, hhi]; exact least_le_most f
 have HLs : Hid (∀ W, NumS w 2 a b s W → Calls Tryz.prog 58 #[.int .i64 f] W fun e W' => e = .returned (.int .i64 lo) ∧ NumS w 2 a b s W') := fun W hW => by
  rw [hlo]
  refine (least_any f hf W).mono ?_
  rintro e w1 ⟨rfl, x⟩
  exact ⟨rfl, hW.step x⟩
 have HMs : Hid (∀ W, NumS w 2 a b s W → Calls Tryz.prog 57 #[.int .i64 f] W fun e W' => e = .returned (.int .i64 hi) ∧ NumS w 2 a b s W') := fun W hW => by
  rw [hhi]
  refine (most_any f hf W).mono ?_
  rintro e w1 ⟨rfl, x⟩
  exact ⟨rfl, hW.step x⟩
 simp only [← hlo, ← hhi] at hh
 have HR : Hid (R = stepsL a a 1) := by show _ = _; rw [hR]; simp [numsA, hlo, hhi]
 clear hR hlo hhi
 have HB : Hid (NumS w 2 a b s ((w.alloc (.cells #[.int .i64 2, .int .i64 a, .int .i64 b, .int .i64 s, .int .i64 n, it] 24)).alloc (.cells #[] 3))) := by
  have hb : Boxed w 2 a b s (w.alloc (.cells #[.int .i64 2, .int .i64 a, .int .i64 b, .int .i64 s, .int .i64 n, it] 24)) := ⟨Ext.alloc _ _, by simp, by simp, by simp, by simp⟩
  refine ⟨hb.step (Ext.alloc _ _), ?_⟩
  have h := World.ownsRow_lit (w.alloc (.cells #[.int .i64 2, .int .i64 a, .int .i64 b, .int .i64 s, .int .i64 n, it] 24)) (base := w.heap.size) (e := 3) (size := 1) #[] 0 (by simp) (by decide) rfl
  have e : (w.alloc (.cells #[.int .i64 2, .int .i64 a, .int .i64 b, .int .i64 s, .int .i64 n, it] 24)).heap.size = w.heap.size + 1 := by simp
  rw [e] at h
  exact h
 go_enter Tryz.func42, Tryz.ntmps42
 go_wp2_with fail
 obtain ⟨T, g, hT, h0, hS, hI⟩ := cls_intro (NumS w _ a b s) _ (NumS.step HB.out (Ext.drew _))
 have c0 := fun t => (hS t).bx.2.1
 have c1 := fun t => (hS t).bx.2.2.1
 have c2 := fun t => (hS t).bx.2.2.2.1
 have c3 := fun t => (hS t).bx.2.2.2.2
 have HS := Lib.hid hS
 have HI := Lib.hid hI
 clear hS hI
 refine wp_region_cls g (by kernel_rfl) (by kernel_rfl) h0 ?_
 clear h0
 repeat (go_big_quiet_step (first
  | (go_at_call 58; exact calls_cls HI.out (HLs.out _ (HS.out _)))
  | (go_at_call 57; exact calls_cls HI.out (HMs.out _ (HS.out _)))))
 refine wpQuiet_nil ?_
 rintro _ ⟨t, rfl⟩
 clear c0 c1 c2 c3
 have HB := Lib.hid (HS.out t)
 clear HS HI
 generalize g t = w2 at HB
 clear hT t g T
 have c0 := HB.out.bx.2.1
 have c1 := HB.out.bx.2.2.1
 have c2 := HB.out.bx.2.2.2.1
 have c3 := HB.out.bx.2.2.2.2
 go_wp2_with fail
 have HX2 := Lib.hid HB.out.bx.1
 have HO2 := Lib.hid HB.out.out
 clear HB c0 c1 c2 c3
 obtain ⟨cnt, hcnt⟩ : ∃ cnt, cnt = ((a - a) / 1).toNat + 1 := ⟨_, rfl⟩
 have HST : Hid (∀ k : Nat, k < cnt ↔ a + 1 * k ≤ a) := by intro k; rw [hcnt]; exact step_lt a a 1 (by omega) (by omega) k
 have HRL : Hid (R = (List.range cnt).map fun i : Nat => a + 1 * (i : Int)) := by show _ = _; rw [hcnt, HR.out]; rfl
 clear hcnt
 go_loopw [5, 10] (fun v i wr => ∃ (k : Nat) (x : Int) (P : List Int), i = .int .i64 x ∧ Hid (x = a + 1 * k) ∧ a ≤ x ∧ x ≤ a + 1 ∧ Hid (k ≤ cnt) ∧ Hid (P = (List.range k).map fun i : Nat => a + 1 * (i : Int)) ∧ Hid (Ints wr w.heap.size v P) ∧ Hid (Ext w wr))
  (fun _ i _ => (a + 1 + 1 - RowKit.intOf i).toNat)
 case atStart => exact ⟨0, a, [], rfl, by show _ = _; simp, by omega, by omega, Nat.zero_le _, rfl, HO2.out, HX2.out⟩
 case round =>
  obtain ⟨k, x, P, rfl, Hx, hx1, hx2, Hk, HP, Hv, Hw⟩ := hrel
  by_cases hle : x ≤ a
  ·have hv' := Hv.out
   have HK : Hid (k < cnt) := by show _ < _; rw [HST.out k, ← Hx.out]; exact hle
   obtain ⟨av, capv, hav⟩ := own_any hv'
   rw [hav] at hv'
   subst hav
   obtain ⟨lv, hlv⟩ : ∃ lv, lv = P.length := ⟨_, rfl⟩
   have hlk : lv = k := by rw [hlv, HP.out]; simp
   have hkb : k ≤ 100000 := by
    have h1 := Hx.out
    have h2 : (k : Int) ≤ 1 * (k : Int) := by
     have := Int.mul_le_mul_of_nonneg_right (show (1 : Int) ≤ 1 by omega) (Int.natCast_nonneg k)
     omega
    omega
   have HV := Lib.hid hv'
   have own0 : wr.ownsRow w.heap.size 3 1 (.slice av lv capv) lv (ints P) := by rw [hlv]; exact hv'
   have HOW := Lib.hid own0
   rw [← hlv]
   have HLV := Lib.hid hlk
   have hlvb : lv ≤ 100000 := by omega
   have hxw := Below.size Hw.out
   clear hv' hlv hlk Hv HV
   go_wp2_with (first
    | (at_builtin; refine wpList_append_own _ rfl _ _ 38 rfl w.heap.size 3 i0 (.int .i64 0) 1 8 Tryz.underlying38 hi0 hz0 hz1 hz2 rfl (by decide) _ _ _ rfl (own0.alloc _) ⟨wr.heap.size, 0, none⟩ 1 1 [.int .i64 x] rfl rfl ?c1 ?c2 ?c3 ?c4 ?c5 ?_)
    | go_in)
   case c1 => exact cell_one_new _ _ _
   case c2 => intro u hu; simp at hu; subst hu; rfl
   case c3 => unfold maxLen; omega
   case c4 => omega
   case c5 => simp; omega
   intro v' w5 hown' hgrow _
   have A1 : Hid (Ints w5 w.heap.size v' (P ++ [x])) := by
    show World.ownsRow _ _ _ _ _ _ _
    have e : (P ++ [x]).length = lv + 1 := by rw [HLV.out, HP.out]; simp
    rw [ints_append, e]
    exact hown'
   have AP : Hid (P ++ [x] = (List.range (k + 1)).map fun i : Nat => a + 1 * (i : Int)) := by show _ = _; rw [steps_prefix, ← Hx.out, HP.out]
   have A5 : Hid (Ext w w5) := Below.grown (Hw.out.trans (Ext.alloc wr _)) hgrow (by have := (Hw.out.trans (Ext.alloc wr (.cells #[.int .i64 x] 3))).size; exact this) (fun q hq => ((own0.alloc (.cells #[.int .i64 x] 3)).lt q hq).1)
   clear hown' hgrow own0
   go_wp2_with fail
   go_roundw
   case rel => exact ⟨k + 1, x + 1, P ++ [x], rfl, by show _ = _; rw [Hx.out]; simp [Int.mul_add, Int.add_assoc], by omega, by omega, HK.out, AP, A1, A5⟩
   case measure => simp [RowKit.intOf]; omega
  ·have HK : Hid (k = cnt) := by
    show _ = _
    have h1 : ¬ k < cnt := by rw [HST.out k, ← Hx.out]; exact hle
    have h2 := Hk.out
    omega
   go_wp2_with fail
   go_ret
   exact num_post Hv.out (by rw [HRL.out, HP.out, HK.out]) Hw.out
set_option maxHeartbeats 6400000 in
set_option maxRecDepth 1000000 in
theorem numbers_3 (f : Nat) (hf : f < 7) (a b s n : Int) (it : Value) (hh : leastF f ≤ a ∧ a ≤ b ∧ b ≤ mostF f) (w : World) :
 Calls Tryz.prog 42 #[.int .i64 f, .agg #[.int .i64 3, .int .i64 a, .int .i64 b, .int .i64 s, .int .i64 n, it]] w (NumPost w (numsA f 3 a b s)) := by
 obtain ⟨i0, hi0, hz0, hz1, hz2⟩ := info_parts Tryz.info3
 obtain ⟨R, hR⟩ : ∃ R, R = numsA f 3 a b s := ⟨_, rfl⟩
 rw [← hR]
 obtain ⟨lo, hlo⟩ : ∃ lo, lo = leastF f := ⟨_, rfl⟩
 obtain ⟨hi, hhi⟩ : ∃ hi, hi = mostF f := ⟨_, rfl⟩
 have hlo0 : 0 ≤ lo ∧ lo ≤ 1970 := by rw [hlo]; exact least_bd f
 have hhi0 : 7 ≤ hi ∧ hi ≤ 2199 := by rw [hhi]; exact most_bd f
 have hlh : lo ≤ hi := by rw [hlo, hhi]; exact least_le_most f
 have HLs : Hid (∀ W, NumS w 3 a b s W → Calls Tryz.prog 58 #[.int .i64 f] W fun e W' => e = .returned (.int .i64 lo) ∧ NumS w 3 a b s W') := fun W hW => by
  rw [hlo]
  refine (least_any f hf W).mono ?_
  rintro e w1 ⟨rfl, x⟩
  exact ⟨rfl, hW.step x⟩
 have HMs : Hid (∀ W, NumS w 3 a b s W → Calls Tryz.prog 57 #[.int .i64 f] W fun e W' => e = .returned (.int .i64 hi) ∧ NumS w 3 a b s W') := fun W hW => by
  rw [hhi]
  refine (most_any f hf W).mono ?_
  rintro e w1 ⟨rfl, x⟩
  exact ⟨rfl, hW.step x⟩
 simp only [← hlo, ← hhi] at hh
 have HR : Hid (R = stepsL a b 1) := by show _ = _; rw [hR]; simp [numsA, hlo, hhi]
 clear hR hlo hhi
 have HB : Hid (NumS w 3 a b s ((w.alloc (.cells #[.int .i64 3, .int .i64 a, .int .i64 b, .int .i64 s, .int .i64 n, it] 24)).alloc (.cells #[] 3))) := by
  have hb : Boxed w 3 a b s (w.alloc (.cells #[.int .i64 3, .int .i64 a, .int .i64 b, .int .i64 s, .int .i64 n, it] 24)) := ⟨Ext.alloc _ _, by simp, by simp, by simp, by simp⟩
  refine ⟨hb.step (Ext.alloc _ _), ?_⟩
  have h := World.ownsRow_lit (w.alloc (.cells #[.int .i64 3, .int .i64 a, .int .i64 b, .int .i64 s, .int .i64 n, it] 24)) (base := w.heap.size) (e := 3) (size := 1) #[] 0 (by simp) (by decide) rfl
  have e : (w.alloc (.cells #[.int .i64 3, .int .i64 a, .int .i64 b, .int .i64 s, .int .i64 n, it] 24)).heap.size = w.heap.size + 1 := by simp
  rw [e] at h
  exact h
 go_enter Tryz.func42, Tryz.ntmps42
 go_wp2_with fail
 obtain ⟨T, g, hT, h0, hS, hI⟩ := cls_intro (NumS w _ a b s) _ (NumS.step HB.out (Ext.drew _))
 have c0 := fun t => (hS t).bx.2.1
 have c1 := fun t => (hS t).bx.2.2.1
 have c2 := fun t => (hS t).bx.2.2.2.1
 have c3 := fun t => (hS t).bx.2.2.2.2
 have HS := Lib.hid hS
 have HI := Lib.hid hI
 clear hS hI
 refine wp_region_cls g (by kernel_rfl) (by kernel_rfl) h0 ?_
 clear h0
 repeat (go_big_quiet_step (first
  | (go_at_call 58; exact calls_cls HI.out (HLs.out _ (HS.out _)))
  | (go_at_call 57; exact calls_cls HI.out (HMs.out _ (HS.out _)))))
 refine wpQuiet_nil ?_
 rintro _ ⟨t, rfl⟩
 clear c0 c1 c2 c3
 have HB := Lib.hid (HS.out t)
 clear HS HI
 generalize g t = w2 at HB
 clear hT t g T
 have c0 := HB.out.bx.2.1
 have c1 := HB.out.bx.2.2.1
 have c2 := HB.out.bx.2.2.2.1
 have c3 := HB.out.bx.2.2.2.2
 go_wp2_with fail
 have HX2 := Lib.hid HB.out.bx.1
 have HO2 := Lib.hid HB.out.out
 clear HB c0 c1 c2 c3
 obtain ⟨cnt, hcnt⟩ : ∃ cnt, cnt = ((b - a) / 1).toNat + 1 := ⟨_, rfl⟩
 have HST : Hid (∀ k : Nat, k < cnt ↔ a + 1 * k ≤ b) := by intro k; rw [hcnt]; exact step_lt a b 1 (by omega) (by omega) k
 have HRL : Hid (R = (List.range cnt).map fun i : Nat => a + 1 * (i : Int)) := by show _ = _; rw [hcnt, HR.out]; rfl
 clear hcnt
 go_loopw [5, 10] (fun v i wr => ∃ (k : Nat) (x : Int) (P : List Int), i = .int .i64 x ∧ Hid (x = a + 1 * k) ∧ a ≤ x ∧ x ≤ b + 1 ∧ Hid (k ≤ cnt) ∧ Hid (P = (List.range k).map fun i : Nat => a + 1 * (i : Int)) ∧ Hid (Ints wr w.heap.size v P) ∧ Hid (Ext w wr))
  (fun _ i _ => (b + 1 + 1 - RowKit.intOf i).toNat)
 case atStart => exact ⟨0, a, [], rfl, by show _ = _; simp, by omega, by omega, Nat.zero_le _, rfl, HO2.out, HX2.out⟩
 case round =>
  obtain ⟨k, x, P, rfl, Hx, hx1, hx2, Hk, HP, Hv, Hw⟩ := hrel
  by_cases hle : x ≤ b
  ·have hv' := Hv.out
   have HK : Hid (k < cnt) := by show _ < _; rw [HST.out k, ← Hx.out]; exact hle
   obtain ⟨av, capv, hav⟩ := own_any hv'
   rw [hav] at hv'
   subst hav
   obtain ⟨lv, hlv⟩ : ∃ lv, lv = P.length := ⟨_, rfl⟩
   have hlk : lv = k := by rw [hlv, HP.out]; simp
   have hkb : k ≤ 100000 := by
    have h1 := Hx.out
    have h2 : (k : Int) ≤ 1 * (k : Int) := by
     have := Int.mul_le_mul_of_nonneg_right (show (1 : Int) ≤ 1 by omega) (Int.natCast_nonneg k)
     omega
    omega
   have HV := Lib.hid hv'
   have own0 : wr.ownsRow w.heap.size 3 1 (.slice av lv capv) lv (ints P) := by rw [hlv]; exact hv'
   have HOW := Lib.hid own0
   rw [← hlv]
   have HLV := Lib.hid hlk
   have hlvb : lv ≤ 100000 := by omega
   have hxw := Below.size Hw.out
   clear hv' hlv hlk Hv HV
   go_wp2_with (first
    | (at_builtin; refine wpList_append_own _ rfl _ _ 38 rfl w.heap.size 3 i0 (.int .i64 0) 1 8 Tryz.underlying38 hi0 hz0 hz1 hz2 rfl (by decide) _ _ _ rfl (own0.alloc _) ⟨wr.heap.size, 0, none⟩ 1 1 [.int .i64 x] rfl rfl ?c1 ?c2 ?c3 ?c4 ?c5 ?_)
    | go_in)
   case c1 => exact cell_one_new _ _ _
   case c2 => intro u hu; simp at hu; subst hu; rfl
   case c3 => unfold maxLen; omega
   case c4 => omega
   case c5 => simp; omega
   intro v' w5 hown' hgrow _
   have A1 : Hid (Ints w5 w.heap.size v' (P ++ [x])) := by
    show World.ownsRow _ _ _ _ _ _ _
    have e : (P ++ [x]).length = lv + 1 := by rw [HLV.out, HP.out]; simp
    rw [ints_append, e]
    exact hown'
   have AP : Hid (P ++ [x] = (List.range (k + 1)).map fun i : Nat => a + 1 * (i : Int)) := by show _ = _; rw [steps_prefix, ← Hx.out, HP.out]
   have A5 : Hid (Ext w w5) := Below.grown (Hw.out.trans (Ext.alloc wr _)) hgrow (by have := (Hw.out.trans (Ext.alloc wr (.cells #[.int .i64 x] 3))).size; exact this) (fun q hq => ((own0.alloc (.cells #[.int .i64 x] 3)).lt q hq).1)
   clear hown' hgrow own0
   go_wp2_with fail
   go_roundw
   case rel => exact ⟨k + 1, x + 1, P ++ [x], rfl, by show _ = _; rw [Hx.out]; simp [Int.mul_add, Int.add_assoc], by omega, by omega, HK.out, AP, A1, A5⟩
   case measure => simp [RowKit.intOf]; omega
  ·have HK : Hid (k = cnt) := by
    show _ = _
    have h1 : ¬ k < cnt := by rw [HST.out k, ← Hx.out]; exact hle
    have h2 := Hk.out
    omega
   go_wp2_with fail
   go_ret
   exact num_post Hv.out (by rw [HRL.out, HP.out, HK.out]) Hw.out
set_option maxHeartbeats 6400000 in
set_option maxRecDepth 1000000 in
theorem numbers_4 (f : Nat) (hf : f < 7) (a b s n : Int) (it : Value) (hh : leastF f ≤ a ∧ a ≤ mostF f ∧ 1 ≤ s ∧ s ≤ mostF f) (w : World) :
 Calls Tryz.prog 42 #[.int .i64 f, .agg #[.int .i64 4, .int .i64 a, .int .i64 b, .int .i64 s, .int .i64 n, it]] w (NumPost w (numsA f 4 a b s)) := by
 obtain ⟨i0, hi0, hz0, hz1, hz2⟩ := info_parts Tryz.info3
 obtain ⟨R, hR⟩ : ∃ R, R = numsA f 4 a b s := ⟨_, rfl⟩
 rw [← hR]
 obtain ⟨lo, hlo⟩ : ∃ lo, lo = leastF f := ⟨_, rfl⟩
 obtain ⟨hi, hhi⟩ : ∃ hi, hi = mostF f := ⟨_, rfl⟩
 have hlo0 : 0 ≤ lo ∧ lo ≤ 1970 := by rw [hlo]; exact least_bd f
 have hhi0 : 7 ≤ hi ∧ hi ≤ 2199 := by rw [hhi]; exact most_bd f
 have hlh : lo ≤ hi := by rw [hlo, hhi]; exact least_le_most f
 have HLs : Hid (∀ W, NumS w 4 a b s W → Calls Tryz.prog 58 #[.int .i64 f] W fun e W' => e = .returned (.int .i64 lo) ∧ NumS w 4 a b s W') := fun W hW => by
  rw [hlo]
  refine (least_any f hf W).mono ?_
  rintro e w1 ⟨rfl, x⟩
  exact ⟨rfl, hW.step x⟩
 have HMs : Hid (∀ W, NumS w 4 a b s W → Calls Tryz.prog 57 #[.int .i64 f] W fun e W' => e = .returned (.int .i64 hi) ∧ NumS w 4 a b s W') := fun W hW => by
  rw [hhi]
  refine (most_any f hf W).mono ?_
  rintro e w1 ⟨rfl, x⟩
  exact ⟨rfl, hW.step x⟩
 simp only [← hlo, ← hhi] at hh
 have HR : Hid (R = stepsL a hi s) := by show _ = _; rw [hR]; simp [numsA, hlo, hhi]
 clear hR hlo hhi
 have HB : Hid (NumS w 4 a b s ((w.alloc (.cells #[.int .i64 4, .int .i64 a, .int .i64 b, .int .i64 s, .int .i64 n, it] 24)).alloc (.cells #[] 3))) := by
  have hb : Boxed w 4 a b s (w.alloc (.cells #[.int .i64 4, .int .i64 a, .int .i64 b, .int .i64 s, .int .i64 n, it] 24)) := ⟨Ext.alloc _ _, by simp, by simp, by simp, by simp⟩
  refine ⟨hb.step (Ext.alloc _ _), ?_⟩
  have h := World.ownsRow_lit (w.alloc (.cells #[.int .i64 4, .int .i64 a, .int .i64 b, .int .i64 s, .int .i64 n, it] 24)) (base := w.heap.size) (e := 3) (size := 1) #[] 0 (by simp) (by decide) rfl
  have e : (w.alloc (.cells #[.int .i64 4, .int .i64 a, .int .i64 b, .int .i64 s, .int .i64 n, it] 24)).heap.size = w.heap.size + 1 := by simp
  rw [e] at h
  exact h
 go_enter Tryz.func42, Tryz.ntmps42
 go_wp2_with fail
 obtain ⟨T, g, hT, h0, hS, hI⟩ := cls_intro (NumS w _ a b s) _ (NumS.step HB.out (Ext.drew _))
 have c0 := fun t => (hS t).bx.2.1
 have c1 := fun t => (hS t).bx.2.2.1
 have c2 := fun t => (hS t).bx.2.2.2.1
 have c3 := fun t => (hS t).bx.2.2.2.2
 have HS := Lib.hid hS
 have HI := Lib.hid hI
 clear hS hI
 refine wp_region_cls g (by kernel_rfl) (by kernel_rfl) h0 ?_
 clear h0
 repeat (go_big_quiet_step (first
  | (go_at_call 58; exact calls_cls HI.out (HLs.out _ (HS.out _)))
  | (go_at_call 57; exact calls_cls HI.out (HMs.out _ (HS.out _)))))
 refine wpQuiet_nil ?_
 rintro _ ⟨t, rfl⟩
 clear c0 c1 c2 c3
 have HB := Lib.hid (HS.out t)
 clear HS HI
 generalize g t = w2 at HB
 clear hT t g T
 have c0 := HB.out.bx.2.1
 have c1 := HB.out.bx.2.2.1
 have c2 := HB.out.bx.2.2.2.1
 have c3 := HB.out.bx.2.2.2.2
 go_wp2_with fail
 clear c0 c1 c2 c3
 obtain ⟨T, g, hT, h0, hS, hI⟩ := cls_intro (NumS w _ a b s) _ (NumS.step HB.out (Ext.drew _))
 have c0 := fun t => (hS t).bx.2.1
 have c1 := fun t => (hS t).bx.2.2.1
 have c2 := fun t => (hS t).bx.2.2.2.1
 have c3 := fun t => (hS t).bx.2.2.2.2
 have HS := Lib.hid hS
 have HI := Lib.hid hI
 clear hS hI
 refine wp_region_cls g (by kernel_rfl) (by kernel_rfl) h0 ?_
 clear h0
 repeat (go_big_quiet_step (first
  | (go_at_call 58; exact calls_cls HI.out (HLs.out _ (HS.out _)))
  | (go_at_call 57; exact calls_cls HI.out (HMs.out _ (HS.out _)))))
 refine wpQuiet_nil ?_
 rintro _ ⟨t, rfl⟩
 clear c0 c1 c2 c3
 have HB := Lib.hid (HS.out t)
 clear HS HI
 generalize g t = w2 at HB
 clear hT t g T
 have c0 := HB.out.bx.2.1
 have c1 := HB.out.bx.2.2.1
 have c2 := HB.out.bx.2.2.2.1
 have c3 := HB.out.bx.2.2.2.2
 go_wp2_with fail
 have HX2 := Lib.hid HB.out.bx.1
 have HO2 := Lib.hid HB.out.out
 clear HB c0 c1 c2 c3
 obtain ⟨cnt, hcnt⟩ : ∃ cnt, cnt = ((hi - a) / s).toNat + 1 := ⟨_, rfl⟩
 have HST : Hid (∀ k : Nat, k < cnt ↔ a + s * k ≤ hi) := by intro k; rw [hcnt]; exact step_lt a hi s (by omega) (by omega) k
 have HRL : Hid (R = (List.range cnt).map fun i : Nat => a + s * (i : Int)) := by show _ = _; rw [hcnt, HR.out]; rfl
 clear hcnt
 go_loopw [5, 10] (fun v i wr => ∃ (k : Nat) (x : Int) (P : List Int), i = .int .i64 x ∧ Hid (x = a + s * k) ∧ a ≤ x ∧ x ≤ hi + s ∧ Hid (k ≤ cnt) ∧ Hid (P = (List.range k).map fun i : Nat => a + s * (i : Int)) ∧ Hid (Ints wr w.heap.size v P) ∧ Hid (Ext w wr))
  (fun _ i _ => (hi + s + 1 - RowKit.intOf i).toNat)
 case atStart => exact ⟨0, a, [], rfl, by show _ = _; simp, by omega, by omega, Nat.zero_le _, rfl, HO2.out, HX2.out⟩
 case round =>
  obtain ⟨k, x, P, rfl, Hx, hx1, hx2, Hk, HP, Hv, Hw⟩ := hrel
  by_cases hle : x ≤ hi
  ·have hv' := Hv.out
   have HK : Hid (k < cnt) := by show _ < _; rw [HST.out k, ← Hx.out]; exact hle
   obtain ⟨av, capv, hav⟩ := own_any hv'
   rw [hav] at hv'
   subst hav
   obtain ⟨lv, hlv⟩ : ∃ lv, lv = P.length := ⟨_, rfl⟩
   have hlk : lv = k := by rw [hlv, HP.out]; simp
   have hkb : k ≤ 100000 := by
    have h1 := Hx.out
    have h2 : (k : Int) ≤ s * (k : Int) := by
     have := Int.mul_le_mul_of_nonneg_right (show (1 : Int) ≤ s by omega) (Int.natCast_nonneg k)
     omega
    omega
   have HV := Lib.hid hv'
   have own0 : wr.ownsRow w.heap.size 3 1 (.slice av lv capv) lv (ints P) := by rw [hlv]; exact hv'
   have HOW := Lib.hid own0
   rw [← hlv]
   have HLV := Lib.hid hlk
   have hlvb : lv ≤ 100000 := by omega
   have hxw := Below.size Hw.out
   clear hv' hlv hlk Hv HV
   go_wp2_with (first
    | (at_builtin; refine wpList_append_own _ rfl _ _ 38 rfl w.heap.size 3 i0 (.int .i64 0) 1 8 Tryz.underlying38 hi0 hz0 hz1 hz2 rfl (by decide) _ _ _ rfl (own0.alloc _) ⟨wr.heap.size, 0, none⟩ 1 1 [.int .i64 x] rfl rfl ?c1 ?c2 ?c3 ?c4 ?c5 ?_)
    | go_in)
   case c1 => exact cell_one_new _ _ _
   case c2 => intro u hu; simp at hu; subst hu; rfl
   case c3 => unfold maxLen; omega
   case c4 => omega
   case c5 => simp; omega
   intro v' w5 hown' hgrow _
   have A1 : Hid (Ints w5 w.heap.size v' (P ++ [x])) := by
    show World.ownsRow _ _ _ _ _ _ _
    have e : (P ++ [x]).length = lv + 1 := by rw [HLV.out, HP.out]; simp
    rw [ints_append, e]
    exact hown'
   have AP : Hid (P ++ [x] = (List.range (k + 1)).map fun i : Nat => a + s * (i : Int)) := by show _ = _; rw [steps_prefix, ← Hx.out, HP.out]
   have A5 : Hid (Ext w w5) := Below.grown (Hw.out.trans (Ext.alloc wr _)) hgrow (by have := (Hw.out.trans (Ext.alloc wr (.cells #[.int .i64 x] 3))).size; exact this) (fun q hq => ((own0.alloc (.cells #[.int .i64 x] 3)).lt q hq).1)
   clear hown' hgrow own0
   go_wp2_with fail
   go_roundw
   case rel => exact ⟨k + 1, x + s, P ++ [x], rfl, by show _ = _; rw [Hx.out]; simp [Int.mul_add, Int.add_assoc], by omega, by omega, HK.out, AP, A1, A5⟩
   case measure => simp [RowKit.intOf]; omega
  ·have HK : Hid (k = cnt) := by
    show _ = _
    have h1 : ¬ k < cnt := by rw [HST.out k, ← Hx.out]; exact hle
    have h2 := Hk.out
    omega
   go_wp2_with fail
   go_ret
   exact num_post Hv.out (by rw [HRL.out, HP.out, HK.out]) Hw.out
set_option maxHeartbeats 6400000 in
set_option maxRecDepth 1000000 in
theorem numbers_5 (f : Nat) (hf : f < 7) (a b s n : Int) (it : Value) (hh : 1 ≤ s ∧ s ≤ mostF f) (w : World) :
 Calls Tryz.prog 42 #[.int .i64 f, .agg #[.int .i64 5, .int .i64 a, .int .i64 b, .int .i64 s, .int .i64 n, it]] w (NumPost w (numsA f 5 a b s)) := by
 obtain ⟨i0, hi0, hz0, hz1, hz2⟩ := info_parts Tryz.info3
 obtain ⟨R, hR⟩ : ∃ R, R = numsA f 5 a b s := ⟨_, rfl⟩
 rw [← hR]
 obtain ⟨lo, hlo⟩ : ∃ lo, lo = leastF f := ⟨_, rfl⟩
 obtain ⟨hi, hhi⟩ : ∃ hi, hi = mostF f := ⟨_, rfl⟩
 have hlo0 : 0 ≤ lo ∧ lo ≤ 1970 := by rw [hlo]; exact least_bd f
 have hhi0 : 7 ≤ hi ∧ hi ≤ 2199 := by rw [hhi]; exact most_bd f
 have hlh : lo ≤ hi := by rw [hlo, hhi]; exact least_le_most f
 have HLs : Hid (∀ W, NumS w 5 a b s W → Calls Tryz.prog 58 #[.int .i64 f] W fun e W' => e = .returned (.int .i64 lo) ∧ NumS w 5 a b s W') := fun W hW => by
  rw [hlo]
  refine (least_any f hf W).mono ?_
  rintro e w1 ⟨rfl, x⟩
  exact ⟨rfl, hW.step x⟩
 have HMs : Hid (∀ W, NumS w 5 a b s W → Calls Tryz.prog 57 #[.int .i64 f] W fun e W' => e = .returned (.int .i64 hi) ∧ NumS w 5 a b s W') := fun W hW => by
  rw [hhi]
  refine (most_any f hf W).mono ?_
  rintro e w1 ⟨rfl, x⟩
  exact ⟨rfl, hW.step x⟩
 simp only [← hlo, ← hhi] at hh
 have HR : Hid (R = stepsL lo hi s) := by show _ = _; rw [hR]; simp [numsA, hlo, hhi]
 clear hR hlo hhi
 have HB : Hid (NumS w 5 a b s ((w.alloc (.cells #[.int .i64 5, .int .i64 a, .int .i64 b, .int .i64 s, .int .i64 n, it] 24)).alloc (.cells #[] 3))) := by
  have hb : Boxed w 5 a b s (w.alloc (.cells #[.int .i64 5, .int .i64 a, .int .i64 b, .int .i64 s, .int .i64 n, it] 24)) := ⟨Ext.alloc _ _, by simp, by simp, by simp, by simp⟩
  refine ⟨hb.step (Ext.alloc _ _), ?_⟩
  have h := World.ownsRow_lit (w.alloc (.cells #[.int .i64 5, .int .i64 a, .int .i64 b, .int .i64 s, .int .i64 n, it] 24)) (base := w.heap.size) (e := 3) (size := 1) #[] 0 (by simp) (by decide) rfl
  have e : (w.alloc (.cells #[.int .i64 5, .int .i64 a, .int .i64 b, .int .i64 s, .int .i64 n, it] 24)).heap.size = w.heap.size + 1 := by simp
  rw [e] at h
  exact h
 go_enter Tryz.func42, Tryz.ntmps42
 go_wp2_with fail
 obtain ⟨T, g, hT, h0, hS, hI⟩ := cls_intro (NumS w _ a b s) _ (NumS.step HB.out (Ext.drew _))
 have c0 := fun t => (hS t).bx.2.1
 have c1 := fun t => (hS t).bx.2.2.1
 have c2 := fun t => (hS t).bx.2.2.2.1
 have c3 := fun t => (hS t).bx.2.2.2.2
 have HS := Lib.hid hS
 have HI := Lib.hid hI
 clear hS hI
 refine wp_region_cls g (by kernel_rfl) (by kernel_rfl) h0 ?_
 clear h0
 repeat (go_big_quiet_step (first
  | (go_at_call 58; exact calls_cls HI.out (HLs.out _ (HS.out _)))
  | (go_at_call 57; exact calls_cls HI.out (HMs.out _ (HS.out _)))))
 refine wpQuiet_nil ?_
 rintro _ ⟨t, rfl⟩
 clear c0 c1 c2 c3
 have HB := Lib.hid (HS.out t)
 clear HS HI
 generalize g t = w2 at HB
 clear hT t g T
 have c0 := HB.out.bx.2.1
 have c1 := HB.out.bx.2.2.1
 have c2 := HB.out.bx.2.2.2.1
 have c3 := HB.out.bx.2.2.2.2
 go_wp2_with fail
 clear c0 c1 c2 c3
 obtain ⟨T, g, hT, h0, hS, hI⟩ := cls_intro (NumS w _ a b s) _ (NumS.step HB.out (Ext.drew _))
 have c0 := fun t => (hS t).bx.2.1
 have c1 := fun t => (hS t).bx.2.2.1
 have c2 := fun t => (hS t).bx.2.2.2.1
 have c3 := fun t => (hS t).bx.2.2.2.2
 have HS := Lib.hid hS
 have HI := Lib.hid hI
 clear hS hI
 refine wp_region_cls g (by kernel_rfl) (by kernel_rfl) h0 ?_
 clear h0
 repeat (go_big_quiet_step (first
  | (go_at_call 58; exact calls_cls HI.out (HLs.out _ (HS.out _)))
  | (go_at_call 57; exact calls_cls HI.out (HMs.out _ (HS.out _)))))
 refine wpQuiet_nil ?_
 rintro _ ⟨t, rfl⟩
 clear c0 c1 c2 c3
 have HB := Lib.hid (HS.out t)
 clear HS HI
 generalize g t = w2 at HB
 clear hT t g T
 have c0 := HB.out.bx.2.1
 have c1 := HB.out.bx.2.2.1
 have c2 := HB.out.bx.2.2.2.1
 have c3 := HB.out.bx.2.2.2.2
 go_wp2_with fail
 have HX2 := Lib.hid HB.out.bx.1
 have HO2 := Lib.hid HB.out.out
 clear HB c0 c1 c2 c3
 obtain ⟨cnt, hcnt⟩ : ∃ cnt, cnt = ((hi - lo) / s).toNat + 1 := ⟨_, rfl⟩
 have HST : Hid (∀ k : Nat, k < cnt ↔ lo + s * k ≤ hi) := by intro k; rw [hcnt]; exact step_lt lo hi s (by omega) (by omega) k
 have HRL : Hid (R = (List.range cnt).map fun i : Nat => lo + s * (i : Int)) := by show _ = _; rw [hcnt, HR.out]; rfl
 clear hcnt
 go_loopw [5, 10] (fun v i wr => ∃ (k : Nat) (x : Int) (P : List Int), i = .int .i64 x ∧ Hid (x = lo + s * k) ∧ lo ≤ x ∧ x ≤ hi + s ∧ Hid (k ≤ cnt) ∧ Hid (P = (List.range k).map fun i : Nat => lo + s * (i : Int)) ∧ Hid (Ints wr w.heap.size v P) ∧ Hid (Ext w wr))
  (fun _ i _ => (hi + s + 1 - RowKit.intOf i).toNat)
 case atStart => exact ⟨0, lo, [], rfl, by show _ = _; simp, by omega, by omega, Nat.zero_le _, rfl, HO2.out, HX2.out⟩
 case round =>
  obtain ⟨k, x, P, rfl, Hx, hx1, hx2, Hk, HP, Hv, Hw⟩ := hrel
  by_cases hle : x ≤ hi
  ·have hv' := Hv.out
   have HK : Hid (k < cnt) := by show _ < _; rw [HST.out k, ← Hx.out]; exact hle
   obtain ⟨av, capv, hav⟩ := own_any hv'
   rw [hav] at hv'
   subst hav
   obtain ⟨lv, hlv⟩ : ∃ lv, lv = P.length := ⟨_, rfl⟩
   have hlk : lv = k := by rw [hlv, HP.out]; simp
   have hkb : k ≤ 100000 := by
    have h1 := Hx.out
    have h2 : (k : Int) ≤ s * (k : Int) := by
     have := Int.mul_le_mul_of_nonneg_right (show (1 : Int) ≤ s by omega) (Int.natCast_nonneg k)
     omega
    omega
   have HV := Lib.hid hv'
   have own0 : wr.ownsRow w.heap.size 3 1 (.slice av lv capv) lv (ints P) := by rw [hlv]; exact hv'
   have HOW := Lib.hid own0
   rw [← hlv]
   have HLV := Lib.hid hlk
   have hlvb : lv ≤ 100000 := by omega
   have hxw := Below.size Hw.out
   clear hv' hlv hlk Hv HV
   go_wp2_with (first
    | (at_builtin; refine wpList_append_own _ rfl _ _ 38 rfl w.heap.size 3 i0 (.int .i64 0) 1 8 Tryz.underlying38 hi0 hz0 hz1 hz2 rfl (by decide) _ _ _ rfl (own0.alloc _) ⟨wr.heap.size, 0, none⟩ 1 1 [.int .i64 x] rfl rfl ?c1 ?c2 ?c3 ?c4 ?c5 ?_)
    | go_in)
   case c1 => exact cell_one_new _ _ _
   case c2 => intro u hu; simp at hu; subst hu; rfl
   case c3 => unfold maxLen; omega
   case c4 => omega
   case c5 => simp; omega
   intro v' w5 hown' hgrow _
   have A1 : Hid (Ints w5 w.heap.size v' (P ++ [x])) := by
    show World.ownsRow _ _ _ _ _ _ _
    have e : (P ++ [x]).length = lv + 1 := by rw [HLV.out, HP.out]; simp
    rw [ints_append, e]
    exact hown'
   have AP : Hid (P ++ [x] = (List.range (k + 1)).map fun i : Nat => lo + s * (i : Int)) := by show _ = _; rw [steps_prefix, ← Hx.out, HP.out]
   have A5 : Hid (Ext w w5) := Below.grown (Hw.out.trans (Ext.alloc wr _)) hgrow (by have := (Hw.out.trans (Ext.alloc wr (.cells #[.int .i64 x] 3))).size; exact this) (fun q hq => ((own0.alloc (.cells #[.int .i64 x] 3)).lt q hq).1)
   clear hown' hgrow own0
   go_wp2_with fail
   go_roundw
   case rel => exact ⟨k + 1, x + s, P ++ [x], rfl, by show _ = _; rw [Hx.out]; simp [Int.mul_add, Int.add_assoc], by omega, by omega, HK.out, AP, A1, A5⟩
   case measure => simp [RowKit.intOf]; omega
  ·have HK : Hid (k = cnt) := by
    show _ = _
    have h1 : ¬ k < cnt := by rw [HST.out k, ← Hx.out]; exact hle
    have h2 := Hk.out
    omega
   go_wp2_with fail
   go_ret
   exact num_post Hv.out (by rw [HRL.out, HP.out, HK.out]) Hw.out
set_option maxHeartbeats 6400000 in
set_option maxRecDepth 1000000 in
theorem numbers_6 (f : Nat) (hf : f < 7) (a b s n : Int) (it : Value) (hh : leastF f ≤ a ∧ a ≤ b ∧ b ≤ mostF f ∧ 1 ≤ s ∧ s ≤ mostF f) (w : World) :
 Calls Tryz.prog 42 #[.int .i64 f, .agg #[.int .i64 6, .int .i64 a, .int .i64 b, .int .i64 s, .int .i64 n, it]] w (NumPost w (numsA f 6 a b s)) := by
 obtain ⟨i0, hi0, hz0, hz1, hz2⟩ := info_parts Tryz.info3
 obtain ⟨R, hR⟩ : ∃ R, R = numsA f 6 a b s := ⟨_, rfl⟩
 rw [← hR]
 obtain ⟨lo, hlo⟩ : ∃ lo, lo = leastF f := ⟨_, rfl⟩
 obtain ⟨hi, hhi⟩ : ∃ hi, hi = mostF f := ⟨_, rfl⟩
 have hlo0 : 0 ≤ lo ∧ lo ≤ 1970 := by rw [hlo]; exact least_bd f
 have hhi0 : 7 ≤ hi ∧ hi ≤ 2199 := by rw [hhi]; exact most_bd f
 have hlh : lo ≤ hi := by rw [hlo, hhi]; exact least_le_most f
 have HLs : Hid (∀ W, NumS w 6 a b s W → Calls Tryz.prog 58 #[.int .i64 f] W fun e W' => e = .returned (.int .i64 lo) ∧ NumS w 6 a b s W') := fun W hW => by
  rw [hlo]
  refine (least_any f hf W).mono ?_
  rintro e w1 ⟨rfl, x⟩
  exact ⟨rfl, hW.step x⟩
 have HMs : Hid (∀ W, NumS w 6 a b s W → Calls Tryz.prog 57 #[.int .i64 f] W fun e W' => e = .returned (.int .i64 hi) ∧ NumS w 6 a b s W') := fun W hW => by
  rw [hhi]
  refine (most_any f hf W).mono ?_
  rintro e w1 ⟨rfl, x⟩
  exact ⟨rfl, hW.step x⟩
 simp only [← hlo, ← hhi] at hh
 have HR : Hid (R = stepsL a b s) := by show _ = _; rw [hR]; simp [numsA, hlo, hhi]
 clear hR hlo hhi
 have HB : Hid (NumS w 6 a b s ((w.alloc (.cells #[.int .i64 6, .int .i64 a, .int .i64 b, .int .i64 s, .int .i64 n, it] 24)).alloc (.cells #[] 3))) := by
  have hb : Boxed w 6 a b s (w.alloc (.cells #[.int .i64 6, .int .i64 a, .int .i64 b, .int .i64 s, .int .i64 n, it] 24)) := ⟨Ext.alloc _ _, by simp, by simp, by simp, by simp⟩
  refine ⟨hb.step (Ext.alloc _ _), ?_⟩
  have h := World.ownsRow_lit (w.alloc (.cells #[.int .i64 6, .int .i64 a, .int .i64 b, .int .i64 s, .int .i64 n, it] 24)) (base := w.heap.size) (e := 3) (size := 1) #[] 0 (by simp) (by decide) rfl
  have e : (w.alloc (.cells #[.int .i64 6, .int .i64 a, .int .i64 b, .int .i64 s, .int .i64 n, it] 24)).heap.size = w.heap.size + 1 := by simp
  rw [e] at h
  exact h
 go_enter Tryz.func42, Tryz.ntmps42
 go_wp2_with fail
 obtain ⟨T, g, hT, h0, hS, hI⟩ := cls_intro (NumS w _ a b s) _ (NumS.step HB.out (Ext.drew _))
 have c0 := fun t => (hS t).bx.2.1
 have c1 := fun t => (hS t).bx.2.2.1
 have c2 := fun t => (hS t).bx.2.2.2.1
 have c3 := fun t => (hS t).bx.2.2.2.2
 have HS := Lib.hid hS
 have HI := Lib.hid hI
 clear hS hI
 refine wp_region_cls g (by kernel_rfl) (by kernel_rfl) h0 ?_
 clear h0
 repeat (go_big_quiet_step (first
  | (go_at_call 58; exact calls_cls HI.out (HLs.out _ (HS.out _)))
  | (go_at_call 57; exact calls_cls HI.out (HMs.out _ (HS.out _)))))
 refine wpQuiet_nil ?_
 rintro _ ⟨t, rfl⟩
 clear c0 c1 c2 c3
 have HB := Lib.hid (HS.out t)
 clear HS HI
 generalize g t = w2 at HB
 clear hT t g T
 have c0 := HB.out.bx.2.1
 have c1 := HB.out.bx.2.2.1
 have c2 := HB.out.bx.2.2.2.1
 have c3 := HB.out.bx.2.2.2.2
 go_wp2_with fail
 clear c0 c1 c2 c3
 obtain ⟨T, g, hT, h0, hS, hI⟩ := cls_intro (NumS w _ a b s) _ (NumS.step HB.out (Ext.drew _))
 have c0 := fun t => (hS t).bx.2.1
 have c1 := fun t => (hS t).bx.2.2.1
 have c2 := fun t => (hS t).bx.2.2.2.1
 have c3 := fun t => (hS t).bx.2.2.2.2
 have HS := Lib.hid hS
 have HI := Lib.hid hI
 clear hS hI
 refine wp_region_cls g (by kernel_rfl) (by kernel_rfl) h0 ?_
 clear h0
 repeat (go_big_quiet_step (first
  | (go_at_call 58; exact calls_cls HI.out (HLs.out _ (HS.out _)))
  | (go_at_call 57; exact calls_cls HI.out (HMs.out _ (HS.out _)))))
 refine wpQuiet_nil ?_
 rintro _ ⟨t, rfl⟩
 clear c0 c1 c2 c3
 have HB := Lib.hid (HS.out t)
 clear HS HI
 generalize g t = w2 at HB
 clear hT t g T
 have c0 := HB.out.bx.2.1
 have c1 := HB.out.bx.2.2.1
 have c2 := HB.out.bx.2.2.2.1
 have c3 := HB.out.bx.2.2.2.2
 go_wp2_with fail
 have HX2 := Lib.hid HB.out.bx.1
 have HO2 := Lib.hid HB.out.out
 clear HB c0 c1 c2 c3
 obtain ⟨cnt, hcnt⟩ : ∃ cnt, cnt = ((b - a) / s).toNat + 1 := ⟨_, rfl⟩
 have HST : Hid (∀ k : Nat, k < cnt ↔ a + s * k ≤ b) := by intro k; rw [hcnt]; exact step_lt a b s (by omega) (by omega) k
 have HRL : Hid (R = (List.range cnt).map fun i : Nat => a + s * (i : Int)) := by show _ = _; rw [hcnt, HR.out]; rfl
 clear hcnt
 go_loopw [5, 10] (fun v i wr => ∃ (k : Nat) (x : Int) (P : List Int), i = .int .i64 x ∧ Hid (x = a + s * k) ∧ a ≤ x ∧ x ≤ b + s ∧ Hid (k ≤ cnt) ∧ Hid (P = (List.range k).map fun i : Nat => a + s * (i : Int)) ∧ Hid (Ints wr w.heap.size v P) ∧ Hid (Ext w wr))
  (fun _ i _ => (b + s + 1 - RowKit.intOf i).toNat)
 case atStart => exact ⟨0, a, [], rfl, by show _ = _; simp, by omega, by omega, Nat.zero_le _, rfl, HO2.out, HX2.out⟩
 case round =>
  obtain ⟨k, x, P, rfl, Hx, hx1, hx2, Hk, HP, Hv, Hw⟩ := hrel
  by_cases hle : x ≤ b
  ·have hv' := Hv.out
   have HK : Hid (k < cnt) := by show _ < _; rw [HST.out k, ← Hx.out]; exact hle
   obtain ⟨av, capv, hav⟩ := own_any hv'
   rw [hav] at hv'
   subst hav
   obtain ⟨lv, hlv⟩ : ∃ lv, lv = P.length := ⟨_, rfl⟩
   have hlk : lv = k := by rw [hlv, HP.out]; simp
   have hkb : k ≤ 100000 := by
    have h1 := Hx.out
    have h2 : (k : Int) ≤ s * (k : Int) := by
     have := Int.mul_le_mul_of_nonneg_right (show (1 : Int) ≤ s by omega) (Int.natCast_nonneg k)
     omega
    omega
   have HV := Lib.hid hv'
   have own0 : wr.ownsRow w.heap.size 3 1 (.slice av lv capv) lv (ints P) := by rw [hlv]; exact hv'
   have HOW := Lib.hid own0
   rw [← hlv]
   have HLV := Lib.hid hlk
   have hlvb : lv ≤ 100000 := by omega
   have hxw := Below.size Hw.out
   clear hv' hlv hlk Hv HV
   go_wp2_with (first
    | (at_builtin; refine wpList_append_own _ rfl _ _ 38 rfl w.heap.size 3 i0 (.int .i64 0) 1 8 Tryz.underlying38 hi0 hz0 hz1 hz2 rfl (by decide) _ _ _ rfl (own0.alloc _) ⟨wr.heap.size, 0, none⟩ 1 1 [.int .i64 x] rfl rfl ?c1 ?c2 ?c3 ?c4 ?c5 ?_)
    | go_in)
   case c1 => exact cell_one_new _ _ _
   case c2 => intro u hu; simp at hu; subst hu; rfl
   case c3 => unfold maxLen; omega
   case c4 => omega
   case c5 => simp; omega
   intro v' w5 hown' hgrow _
   have A1 : Hid (Ints w5 w.heap.size v' (P ++ [x])) := by
    show World.ownsRow _ _ _ _ _ _ _
    have e : (P ++ [x]).length = lv + 1 := by rw [HLV.out, HP.out]; simp
    rw [ints_append, e]
    exact hown'
   have AP : Hid (P ++ [x] = (List.range (k + 1)).map fun i : Nat => a + s * (i : Int)) := by show _ = _; rw [steps_prefix, ← Hx.out, HP.out]
   have A5 : Hid (Ext w w5) := Below.grown (Hw.out.trans (Ext.alloc wr _)) hgrow (by have := (Hw.out.trans (Ext.alloc wr (.cells #[.int .i64 x] 3))).size; exact this) (fun q hq => ((own0.alloc (.cells #[.int .i64 x] 3)).lt q hq).1)
   clear hown' hgrow own0
   go_wp2_with fail
   go_roundw
   case rel => exact ⟨k + 1, x + s, P ++ [x], rfl, by show _ = _; rw [Hx.out]; simp [Int.mul_add, Int.add_assoc], by omega, by omega, HK.out, AP, A1, A5⟩
   case measure => simp [RowKit.intOf]; omega
  ·have HK : Hid (k = cnt) := by
    show _ = _
    have h1 : ¬ k < cnt := by rw [HST.out k, ← Hx.out]; exact hle
    have h2 := Hk.out
    omega
   go_wp2_with fail
   go_ret
   exact num_post Hv.out (by rw [HRL.out, HP.out, HK.out]) Hw.out
end Go.Proofs.YtmaffdhcmdhjfaaGreatDoor
namespace Go.Proofs.YtmaffdhcmdhjfaaGreatDoor
open Go.RowKit Go.Lib
theorem numsA_len {f : Nat} {k a b s n : Int} (h : Simple f k a b s n) : 0 < (numsA f k a b s).length ∧ (numsA f k a b s).length ≤ 4001 := by
 have l := least_bd f
 have m := most_bd f
 have lm := least_le_most f
 rcases h.kind with rfl | rfl | rfl | rfl | rfl
 ·have := simple_number h; simp only [numsA]; exact stepsL_len a a 1 (by omega) (by omega) (by omega) (by omega)
 ·have := simple_range h; simp only [numsA]; exact stepsL_len a b 1 (by omega) (by omega) (by omega) (by omega)
 ·have := simple_from h; simp only [numsA]; exact stepsL_len a (mostF f) s (by omega) (by omega) (by omega) (by omega)
 ·have := simple_every h; simp only [numsA]; exact stepsL_len (leastF f) (mostF f) s (by omega) (by omega) (by omega) (by omega)
 ·have := simple_steps h; simp only [numsA]; exact stepsL_len a b s (by omega) (by omega) (by omega) (by omega)
theorem numbers_simple (f : Nat) (hf : f < 7) (k a b s n : Int) (it : Value) (h : Simple f k a b s n) (w : World) :
 Calls Tryz.prog 42 #[.int .i64 f, .agg #[.int .i64 k, .int .i64 a, .int .i64 b, .int .i64 s, .int .i64 n, it]] w (NumPost w (numsA f k a b s)) := by
 rcases h.kind with rfl | rfl | rfl | rfl | rfl
 ·exact numbers_2 f hf a b s n it (simple_number h) w
 ·exact numbers_3 f hf a b s n it (simple_range h) w
 ·have := simple_from h; exact numbers_4 f hf a b s n it ⟨this.1, this.2.1, this.2.2.1, this.2.2.2.1⟩ w
 ·have := simple_every h; exact numbers_5 f hf a b s n it ⟨this.1, this.2.1⟩ w
 ·exact numbers_6 f hf a b s n it (simple_steps h) w
theorem sort63 (v : Value) (base : Nat) (zs : List Int) (w : World) (hI : Ints w base v zs) (hl : zs.length ≤ 100000000) :
 Calls Tryz.prog 63 #[v] w fun e w' => e = .returned (.tuple #[]) ∧ Ints w' base v (sortL zs) ∧ w.grownBy w' v.ownBlock := by
 rcases hI.2 with ⟨rfl, h0⟩ | ⟨g, cap, cur, rfl, hb, hg, hnc, hcm, hcs, htake⟩
 ·have hz : zs = [] := List.length_eq_zero_iff.mp h0
  subst hz
  refine (Tryz.slices_Sort_int_none none 0 w).mono ?_
  rintro e w' ⟨rfl, rfl⟩
  exact ⟨rfl, by simpa [sortL] using hI, ⟨rfl, rfl, rfl, Nat.le_refl _, fun _ _ _ => rfl⟩⟩
 ·have hH : Go.Sort.Holds (Value.int .i64) w g 0 zs.toArray := by
   intro j hj
   have hj' : j < zs.length := by simpa using hj
   rw [Nat.zero_add]
   refine ⟨?_, World.ownsRow.frozenAt hI j⟩
   rw [World.ownsRow.cellAt hI j (by omega)]
   simp [ints, List.getElem?_map, List.getElem?_eq_getElem hj', hj']
  refine (Tryz.slices_Sort_int g 0 cap zs w hH (block_lt hg) (by omega)).mono ?_
  rintro e w' ⟨rfl, n, os, rfl⟩
  have hlen : (sortL zs).length = zs.length := by simp [sortL]
  refine ⟨rfl, ?_, grownBy_sortedI _⟩
  unfold Ints
  rw [hlen]
  exact ownsRow_sortedI (ss := zs) hlen hb hg hnc hcm hcs
set_option maxHeartbeats 6400000 in
set_option maxRecDepth 1000000 in
theorem numbers_none (f : Nat) (hf : f < 7) (k a b s n : Int) (it : Value) (h2 : k ≠ 2) (h3 : k ≠ 3) (h4 : k ≠ 4) (h5 : k ≠ 5) (h6 : k ≠ 6) (h7 : k ≠ 7) (w : World) :
 Calls Tryz.prog 42 #[.int .i64 f, .agg #[.int .i64 k, .int .i64 a, .int .i64 b, .int .i64 s, .int .i64 n, it]] w (NumPost w (numsA f k a b s)) := by
 have hr : numsA f k a b s = [] := by unfold numsA; rw [if_neg h2, if_neg h3, if_neg h4, if_neg h5, if_neg h6]
 rw [hr]
 clear hr
 have HB : Hid (NumS w k a b s ((w.alloc (.cells #[.int .i64 k, .int .i64 a, .int .i64 b, .int .i64 s, .int .i64 n, it] 24)).alloc (.cells #[] 3))) := by
  have hb : Boxed w k a b s (w.alloc (.cells #[.int .i64 k, .int .i64 a, .int .i64 b, .int .i64 s, .int .i64 n, it] 24)) := ⟨Ext.alloc _ _, by simp, by simp, by simp, by simp⟩
  refine ⟨hb.step (Ext.alloc _ _), ?_⟩
  have h := World.ownsRow_lit (w.alloc (.cells #[.int .i64 k, .int .i64 a, .int .i64 b, .int .i64 s, .int .i64 n, it] 24)) (base := w.heap.size) (e := 3) (size := 1) #[] 0 (by simp) (by decide) rfl
  have e : (w.alloc (.cells #[.int .i64 k, .int .i64 a, .int .i64 b, .int .i64 s, .int .i64 n, it] 24)).heap.size = w.heap.size + 1 := by simp
  rw [e] at h
  exact h
 have e2 : (k == 2) = false := by rw [beq_eq_false_iff_ne]; exact h2
 have e3 : (k == 3) = false := by rw [beq_eq_false_iff_ne]; exact h3
 have e4 : (k == 4) = false := by rw [beq_eq_false_iff_ne]; exact h4
 have e5 : (k == 5) = false := by rw [beq_eq_false_iff_ne]; exact h5
 have e6 : (k == 6) = false := by rw [beq_eq_false_iff_ne]; exact h6
 have e7 : (k == 7) = false := by rw [beq_eq_false_iff_ne]; exact h7
 clear h2 h3 h4 h5 h6 h7
 go_enter Tryz.func42, Tryz.ntmps42
 go_wp2_with fail
 obtain ⟨T, g, hT, h0, hS, hI⟩ := cls_intro (NumS w _ a b s) _ (NumS.step HB.out (Ext.drew _))
 have c0 := fun t => (hS t).bx.2.1
 have c1 := fun t => (hS t).bx.2.2.1
 have c2 := fun t => (hS t).bx.2.2.2.1
 have c3 := fun t => (hS t).bx.2.2.2.2
 have HS := Lib.hid hS
 clear hS hI
 refine wp_region_cls g (by kernel_rfl) (by kernel_rfl) h0 ?_
 clear h0
 repeat (go_big_quiet_step (fail))
 refine wpQuiet_nil ?_
 rintro _ ⟨t, rfl⟩
 clear c0 c1 c2 c3
 have HB := Lib.hid (HS.out t)
 clear HS
 generalize g t = w2 at HB
 clear hT t g T
 have c0 := HB.out.bx.2.1
 go_wp2_with fail
 go_ret
 exact num_post HB.out.out rfl HB.out.bx.1
structure NumL (w : World) (a b s : Int) (it : Value) (W : World) : Prop where
 bx : NumS w 7 a b s W
 it : W.cell? ⟨w.heap.size, 5, none⟩ = some it
 out : Ints W (w.heap.size + 1) (.slice (some ⟨w.heap.size + 1, 0, none⟩) 0 0) []
theorem NumL.step {w : World} {a b s : Int} {it : Value} {W W' : World} (h : NumL w a b s it W) (x : Ext W W') : NumL w a b s it W' := ⟨h.bx.step x, x.cell h.it, h.out.ext x⟩
theorem grown_cell {w w' : World} {row : Option Nat} (h : w.grownBy w' row) {a : Addr} {v : Value} (hc : w.cell? a = some v) (hne : row ≠ some a.block) : w'.cell? a = some v := by
 have hl : a.block < w.heap.size := by
  rcases Nat.lt_or_ge a.block w.heap.size with h' | h'
  ·exact h'
  ·simp [World.cell?, Array.getElem?_eq_none h'] at hc
 have hb := h.block a.block hl (fun e => hne e.symm)
 unfold World.cell? at hc ⊢
 rw [hb]
 exact hc
set_option maxHeartbeats 6400000 in
set_option maxRecDepth 1000000 in
theorem numbers_list (f : Nat) (hf : f < 7) (a b s n : Int) (ia : Option Addr) (cap : Nat) (items : List Atom) (hO : ListOk f items) (h6 : items.length ≤ 6) (w : World) (hI : ItemsAt w ia items) :
 Calls Tryz.prog 42 #[.int .i64 f, .agg #[.int .i64 7, .int .i64 a, .int .i64 b, .int .i64 s, .int .i64 n, .slice ia items.length cap]] w (NumPost w (sortL (items.flatMap (Atom.nums f)))) := by
 obtain ⟨i0, hi0, hz0, hz1, hz2⟩ := info_parts Tryz.info3
 obtain ⟨L, hL⟩ : ∃ L, L = items.length := ⟨_, rfl⟩
 have HL := Lib.hid hL
 have HI := Lib.hid hI
 have hl6 : L ≤ 6 := by rw [hL]; exact h6
 rw [← hL]
 clear hL hI
 have HB : Hid (NumS w 7 a b s ((w.alloc (.cells #[.int .i64 7, .int .i64 a, .int .i64 b, .int .i64 s, .int .i64 n, .slice ia L cap] 24)).alloc (.cells #[] 3))) := by
  have hb : Boxed w 7 a b s (w.alloc (.cells #[.int .i64 7, .int .i64 a, .int .i64 b, .int .i64 s, .int .i64 n, .slice ia L cap] 24)) := ⟨Ext.alloc _ _, by simp, by simp, by simp, by simp⟩
  refine ⟨hb.step (Ext.alloc _ _), ?_⟩
  have h := World.ownsRow_lit (w.alloc (.cells #[.int .i64 7, .int .i64 a, .int .i64 b, .int .i64 s, .int .i64 n, .slice ia L cap] 24)) (base := w.heap.size) (e := 3) (size := 1) #[] 0 (by simp) (by decide) rfl
  have e : (w.alloc (.cells #[.int .i64 7, .int .i64 a, .int .i64 b, .int .i64 s, .int .i64 n, .slice ia L cap] 24)).heap.size = w.heap.size + 1 := by simp
  rw [e] at h
  exact h
 have HBL : Hid (NumL w a b s (.slice ia L cap) ((w.alloc (.cells #[.int .i64 7, .int .i64 a, .int .i64 b, .int .i64 s, .int .i64 n, .slice ia L cap] 24)).alloc (.cells #[] 3))) := by
  refine ⟨HB.out, ?_, ?_⟩
  rotate_left
  ·have h := World.ownsRow_lit (w.alloc (.cells #[.int .i64 7, .int .i64 a, .int .i64 b, .int .i64 s, .int .i64 n, .slice ia L cap] 24)) (base := w.heap.size + 1) (e := 3) (size := 1) #[] 0 (by simp) (by decide) rfl
   have e : (w.alloc (.cells #[.int .i64 7, .int .i64 a, .int .i64 b, .int .i64 s, .int .i64 n, .slice ia L cap] 24)).heap.size = w.heap.size + 1 := by simp
   rw [e] at h
   exact h
  have : (w.alloc (.cells #[.int .i64 7, .int .i64 a, .int .i64 b, .int .i64 s, .int .i64 n, .slice ia L cap] 24)).cell? ⟨w.heap.size, 5, none⟩ = some (.slice ia L cap) := by simp
  exact (Ext.alloc _ _).cell this
 clear HB
 have HB := HBL
 clear HBL
 go_enter Tryz.func42, Tryz.ntmps42
 go_wp2_with fail
 obtain ⟨T, g, hT, h0, hS, hI⟩ := cls_intro (NumL w a b s (.slice ia L cap)) _ (NumL.step HB.out (Ext.drew _))
 have c0 := fun t => (hS t).bx.bx.2.1
 have c1 := fun t => (hS t).bx.bx.2.2.1
 have c2 := fun t => (hS t).bx.bx.2.2.2.1
 have c3 := fun t => (hS t).bx.bx.2.2.2.2
 have HS := Lib.hid hS
 clear hS hI
 refine wp_region_cls g (by kernel_rfl) (by kernel_rfl) h0 ?_
 clear h0
 repeat (go_big_quiet_step (fail))
 refine wpQuiet_nil ?_
 rintro _ ⟨t, rfl⟩
 clear c0 c1 c2 c3
 have HB := Lib.hid (HS.out t)
 clear HS
 generalize g t = w2 at HB
 clear hT t g T
 have c0 := HB.out.bx.bx.2.1
 have c5 := HB.out.it
 have C5 := Lib.hid c5
 have HX2 := Lib.hid HB.out.bx.bx.1
 have HO2 := Lib.hid HB.out.out
 have hsz2 : w.heap.size < w2.heap.size := by
  have := c5
  rcases Nat.lt_or_ge w.heap.size w2.heap.size with h | h
  ·exact h
  ·simp [World.cell?, Array.getElem?_eq_none h] at this
 have Hsz2 := Lib.hid hsz2
 have HWs : Hid (w.heap.size + 1 ≤ w.heap.size + 1) := Nat.le_refl _
 clear hsz2
 go_wp2_with fail
 go_loopw [5, 9] (fun v i wr => ∃ (k : Nat) (P : List Int), k ≤ L ∧ i = .int .i64 k ∧ Hid (P = (items.take k).flatMap (Atom.nums f)) ∧ P.length ≤ k * 4001 ∧ Hid (Ints wr (w.heap.size + 1) v P) ∧ Hid (Ext w wr) ∧ Hid (wr.cell? ⟨w.heap.size, 5, none⟩ = some (.slice ia L cap)))
  (fun _ i _ => L - (RowKit.intOf i).toNat)
 case atStart => exact ⟨0, [], Nat.zero_le _, rfl, rfl, Nat.zero_le _, HO2.out, HX2.out, C5.out⟩
 case round =>
  obtain ⟨k, P, hk, rfl, HP, hPl, Hv, Hw, H5⟩ := hrel
  clear c0 c5
  have c5 := H5.out
  have hv' := Hv.out
  obtain ⟨av, capv, hav⟩ := own_any hv'
  rw [hav] at hv'
  subst hav
  obtain ⟨lv, hlv⟩ : ∃ lv, lv = P.length := ⟨_, rfl⟩
  have own0 : wr.ownsRow (w.heap.size + 1) 3 1 (.slice av lv capv) lv (ints P) := by rw [hlv]; exact hv'
  have hlvb : lv ≤ k * 4001 := by omega
  have hxw := Below.size Hw.out
  rw [← hlv]
  have HLV := Lib.hid hlv
  have HOW := Lib.hid own0
  clear hv' Hv hlv own0
  by_cases hlt : k < L
  ·have hkl : k < items.length := by have := HL.out; omega
   obtain ⟨bl, off, rfl, hc⟩ := HI.out (by intro e; rw [e] at hkl; simp at hkl)
   obtain ⟨x, hx⟩ : ∃ x, items[k]? = some x := ⟨_, List.getElem?_eq_getElem hkl⟩
   obtain ⟨d0, d1, d2, d3, d4, d5⟩ := hc k x hx
   replace d0 := Hw.out.cell d0
   replace d1 := Hw.out.cell d1
   replace d2 := Hw.out.cell d2
   replace d3 := Hw.out.cell d3
   replace d4 := Hw.out.cell d4
   replace d5 := Hw.out.cell d5
   have h1 : items[k]'hkl = x := (List.getElem?_eq_some_iff.mp hx).2
   have hS : x.ok f := hO.ok x (List.mem_of_getElem? hx)
   obtain ⟨qs, hqs⟩ : ∃ qs, qs = x.nums f := ⟨_, rfl⟩
   have HPS : Hid (P ++ qs = (items.take (k + 1)).flatMap (Atom.nums f)) := by
    show _ = _
    rw [List.take_succ_eq_append_getElem hkl, List.flatMap_append, h1, HP.out, hqs]
    simp
   obtain ⟨xk, xa, xb, xs, xn, xit⟩ := x
   simp only at d0 d1 d2 d3 d4 d5
   have hql : 0 < qs.length ∧ qs.length ≤ 4001 := by rw [hqs]; exact numsA_len (n := xn) hS
   have HCX : Hid (∀ W, Calls Tryz.prog 42 #[.int .i64 f, .agg #[.int .i64 xk, .int .i64 xa, .int .i64 xb, .int .i64 xs, .int .i64 xn, xit]] W (NumPost W qs)) := fun W => by
    rw [hqs]; exact numbers_simple f hf xk xa xb xs xn xit hS W
   clear hc hx h1 hqs hS
   go_wp2_with fail
   go_at_call 42
   refine (HCX.out _).mono ?_
   rintro e w7 ⟨v7, rfl, hI7, x7⟩
   obtain ⟨g7, cap7, rfl, _, _, hc7⟩ := hI7.form hql.1
   have own7 : w7.ownsRow (w.heap.size + 1) 3 1 (.slice av lv capv) lv (ints P) := own_ext x7 HOW.out
   have Hnews : Hid (∀ j u, (ints qs)[j]? = some u → w7.cell? ((⟨g7, 0, none⟩ : Addr).add j) = some u) := by
    intro j u hu
    have ha : (⟨g7, 0, none⟩ : Addr).add j = ⟨g7, j, none⟩ := by unfold Addr.add; split <;> simp_all
    rw [ha]
    simp only [ints, List.getElem?_map, Option.map_eq_some_iff] at hu
    obtain ⟨y, hy, rfl⟩ := hu
    exact hc7 j y hy
   have HW7 := Lib.hid (Hw.out.trans x7)
   have H57 := Lib.hid (x7.cell H5.out)
   have hs7 := Below.size x7
   clear hI7 x7 hc7 c5 d0 d1 d2 d3 d4 d5
   go_wp2_with (first
    | (at_builtin; refine wpList_append_own _ rfl _ _ 38 rfl (w.heap.size + 1) 3 i0 (.int .i64 0) 1 8 Tryz.underlying38 hi0 hz0 hz1 hz2 rfl (by decide) _ _ _ rfl own7 ⟨g7, 0, none⟩ qs.length cap7 (ints qs) rfl (by simp [ints]) ?c1 ?c2 ?c3 ?c4 ?c5 ?_)
    | go_in)
   case c1 => exact Hnews.out
   case c2 => exact ints_one qs
   case c3 => unfold maxLen; omega
   case c4 => omega
   case c5 => have := HWs.out; omega
   intro v' w8 hown' hgrow _
   have A1 : Hid (Ints w8 (w.heap.size + 1) v' (P ++ qs)) := by
    show World.ownsRow _ _ _ _ _ _ _
    have e1 : (P ++ qs).length = lv + qs.length := by rw [List.length_append, HLV.out]
    rw [e1, ints_append]; exact hown'
   have A4 : Hid (Ext w w8) := Below.grown HW7.out hgrow (Below.size HW7.out) (fun q hq => by have := (own7.lt q hq).1; omega)
   have A5 : Hid (w8.cell? ⟨w.heap.size, 5, none⟩ = some (.slice (some ⟨bl, off, none⟩) L cap)) := grown_cell hgrow H57.out (fun e => by have h := (own7.lt _ e).1; exact absurd h (by show ¬ (w.heap.size + 1 ≤ w.heap.size); omega))
   have hpl2 : (P ++ qs).length ≤ (k + 1) * 4001 := by rw [List.length_append]; omega
   clear hown' hgrow own7 Hnews
   go_wp2_with fail
   go_roundw
   case rel => exact ⟨k + 1, P ++ qs, by omega, by go_num, HPS.out, hpl2, A1, A4, A5⟩
   case measure => simp [RowKit.intOf]; omega
  ·have hkL : items.take k = items := List.take_of_length_le (by have := HL.out; omega)
   have HPE : Hid (P = items.flatMap (Atom.nums f)) := by show _ = _; rw [HP.out, hkL]
   clear hkL HP
   have hs := sort63 (.slice av lv capv) (w.heap.size + 1) P wr (by show World.ownsRow _ _ _ _ _ _ _; rw [← HLV.out]; exact HOW.out) (by omega)
   have Hs := Lib.hid hs
   clear hs
   go_wp2_with fail
   go_at_call 63
   refine Hs.out.mono ?_
   rintro e w9 ⟨rfl, hI9, hg9⟩
   have A4 : Hid (Ext w w9) := Below.grown Hw.out hg9 (Below.size Hw.out) (fun q hq => by have := (HOW.out.lt q hq).1; omega)
   have A1 : Hid (Ints w9 w.heap.size (.slice av lv capv) (sortL P)) := hI9.mono (by omega)
   clear hI9 hg9 c5
   go_wp2_with fail
   go_ret
   exact num_post A1.out (by rw [HPE.out]) A4.out
end Go.Proofs.YtmaffdhcmdhjfaaGreatDoor
namespace Go.Proofs.YtmaffdhcmdhjfaaGreatDoor
open Go.RowKit Go.Lib
def PartV.nums (f : Nat) (p : PartV) : List Int := numsP f p.k p.a p.b p.s p.items
def CronV.numsAt (c : CronV) (i : Nat) : List Int :=
 if i = 5 then ((c.p 5).nums 5).map dec1 else if i = 6 ∧ c.six = true then [] else (c.p i).nums i
def CronV.nums (c : CronV) (k : Nat) : List (List Int) := (List.range k).map c.numsAt
theorem nums_succ (c : CronV) (k : Nat) : c.nums (k + 1) = c.nums k ++ [c.numsAt k] := by simp [CronV.nums, List.range_succ]
theorem right_plain {f : Nat} {p : PartV} (h : p.rightB f = true) : (p.n = 0 ∨ p.n = 1 ∨ p.n = 2) ∧ ((p.k = 2 ∨ p.k = 3 ∨ p.k = 4 ∨ p.k = 5 ∨ p.k = 6) → Simple f p.k p.a p.b p.s p.n) := by
 unfold PartV.rightB YtmaffdhcmdhjfaaGreatDoor.rightB at h
 by_cases hn0 : p.n < 0
 ·rw [if_pos hn0] at h; cases h
 ·by_cases hn2 : 2 < p.n
  ·rw [if_neg hn0, if_pos hn2] at h; cases h
  ·rw [if_neg hn0, if_neg hn2] at h
   refine ⟨by omega, fun hk => ⟨?_, by omega⟩⟩
   rw [if_neg (by omega), if_neg (by omega), if_neg (by omega), if_neg (by omega), if_neg (by omega), if_neg (by omega), if_neg (by omega), if_neg (by omega), if_neg (by omega)] at h
   exact h
theorem numbers_part (f : Nat) (hf : f < 7) (p : PartV) (hp : p.rightB f = true) (w : World) (hI : ItemsAt w p.ia p.items) :
 Calls Tryz.prog 42 #[.int .i64 f, .agg #[.int .i64 p.k, .int .i64 p.a, .int .i64 p.b, .int .i64 p.s, .int .i64 p.n, .slice p.ia p.items.length p.cap]] w (NumPost w (p.nums f)) := by
 have hli := right_items hp
 have hpl := (right_plain hp).2
 obtain ⟨k, a, b, s, n, ia, cap, items⟩ := p
 simp only at hI hli hpl
 unfold PartV.nums numsP
 simp only
 by_cases h7 : k = 7
 ·subst h7
  rw [if_pos rfl]
  obtain ⟨h1, h2⟩ := hli rfl
  exact numbers_list f hf a b s n ia cap items h1 h2 w hI
 ·rw [if_neg h7]
  by_cases hk : k = 2 ∨ k = 3 ∨ k = 4 ∨ k = 5 ∨ k = 6
  ·exact numbers_simple f hf k a b s n _ (hpl hk) w
  ·exact numbers_none f hf k a b s n _ (by omega) (by omega) (by omega) (by omega) (by omega) h7 w
theorem flat_len (f : Nat) : ∀ items : List Atom, (∀ x ∈ items, x.ok f) → (items.flatMap (Atom.nums f)).length ≤ items.length * 4001
 | [], _ => by simp
 | x :: xs, h => by
   have h1 := flat_len f xs (fun y hy => h y (by simp [hy]))
   have h2 : (x.nums f).length ≤ 4001 := (numsA_len (h x (by simp))).2
   simp only [List.flatMap_cons, List.length_append, List.length_cons]
   omega
theorem nums_len {f : Nat} {p : PartV} (hp : p.rightB f = true) : (p.nums f).length ≤ 30000 := by
 have hli := right_items hp
 have hpl := (right_plain hp).2
 unfold PartV.nums numsP
 by_cases h7 : p.k = 7
 ·rw [if_pos h7]
  obtain ⟨h1, h2⟩ := hli h7
  have := flat_len f p.items h1.ok
  have hs : (sortL (p.items.flatMap (Atom.nums f))).length = (p.items.flatMap (Atom.nums f)).length := by simp [sortL]
  omega
 ·rw [if_neg h7]
  by_cases hk : p.k = 2 ∨ p.k = 3 ∨ p.k = 4 ∨ p.k = 5 ∨ p.k = 6
  ·have := (numsA_len (hpl hk)).2; omega
  ·unfold numsA
   rw [if_neg (by omega), if_neg (by omega), if_neg (by omega), if_neg (by omega), if_neg (by omega)]
   simp
structure NumsOk (c : CronV) : Prop where
 right : ∀ j, j < 7 → (c.p j).rightB j = true
def RowsPost (w : World) (ls : List (List Int)) (en : Ending) (w' : World) : Prop := ∃ v, en = .returned v ∧ IntRows w' w.heap.size v ls ∧ Ext w w'
theorem lit_ints (w : World) (base : Nat) (hb : base ≤ w.heap.size) : Ints (w.alloc (.cells #[] 3)) base (.slice (some ⟨w.heap.size, 0, none⟩) 0 0) [] :=
 World.ownsRow_lit w (e := 3) (size := 1) #[] 0 hb (by decide) rfl
theorem lit_rows (w : World) (base : Nat) (hb : base ≤ w.heap.size) : IntRows (w.alloc (.cells #[] 38)) base (.slice (some ⟨w.heap.size, 0, none⟩) 0 0) [] :=
 ⟨[], World.ownsRow_lit w (e := 38) (size := 1) #[] 0 hb (by decide) rfl, fun i x l h => by simp at h⟩
set_option maxHeartbeats 6400000 in
set_option maxRecDepth 1000000 in
theorem numbers_cron (c : CronV) (hO : NumsOk c) (w : World) (hI : CronItems w c) :
 Calls Tryz.prog 19 #[.agg c.cells] w (RowsPost w (c.nums 7)) := by
 obtain ⟨i0, hi0, hz0, hz1, hz2⟩ := info_parts Tryz.info38
 obtain ⟨six, hsix⟩ : ∃ six, six = c.six := ⟨_, rfl⟩
 have HSIX := Lib.hid hsix
 have HC : Hid (CronAt (w.alloc (.cells c.cells 27)) w.heap.size c) := cron_alloc w c
 have HX : Hid (Ext w (w.alloc (.cells c.cells 27))) := Ext.alloc _ _
 have H42 : Hid ((w.alloc (.cells c.cells 27)).cell? ⟨w.heap.size, 42, none⟩ = some (.bool six)) := by rw [hsix]; exact HC.out.six
 have HI := Lib.hid hI
 have HO := Lib.hid hO
 have hR0 := lit_rows (w.alloc (.cells c.cells 27)) (w.heap.size + 1) (by simp)
 have hsz0 : (w.alloc (.cells c.cells 27)).heap.size = w.heap.size + 1 := by simp
 rw [hsz0] at hR0
 have HR0 := Lib.hid hR0
 have HX0 : Hid (Ext (w.alloc (.cells c.cells 27)) ((w.alloc (.cells c.cells 27)).alloc (.cells #[] 38))) := Ext.alloc _ _
 have HSZ := Lib.hid hsz0
 clear hsix hI hO hR0 hsz0
 go_enter Tryz.func19, Tryz.ntmps19
 go_wp2_with fail
 go_loopw [3, 4, 5, 6] (fun v i _ _ wr => ∃ (k : Nat) (ls : List (List Int)), k ≤ 7 ∧ i = .int .i64 k ∧ ls.length = k ∧ Hid (ls = c.nums k) ∧ Hid (IntRows wr (w.heap.size + 1) v ls) ∧ Hid (Ext (w.alloc (.cells c.cells 27)) wr))
  (fun _ i _ _ _ => 7 - (RowKit.intOf i).toNat)
 case atStart => exact ⟨0, [], Nat.zero_le _, rfl, rfl, rfl, HR0.out, HX0.out⟩
 case round =>
  obtain ⟨k, ls, hk, rfl, hll, HL, HR, Hx⟩ := hrel
  by_cases hlt : k < 7
  ·have CA := HC.out.ext Hx.out
   have d0 := CA.k k hlt
   have d1 := CA.a k hlt
   have d2 := CA.b k hlt
   have d3 := CA.s k hlt
   have d4 := CA.n k hlt
   have d5 := CA.it k hlt
   have c42 : wr.cell? ⟨w.heap.size, 42, none⟩ = some (.bool six) := Hx.out.cell H42.out
   have hp := HO.out.right k hlt
   obtain ⟨qs, hqs⟩ : ∃ qs, qs = (c.p k).nums k := ⟨_, rfl⟩
   have hql : qs.length ≤ 30000 := by rw [hqs]; exact nums_len hp
   have HCX : Hid (∀ W, Ext w W → Calls Tryz.prog 42 #[.int .i64 k, .agg #[.int .i64 (c.p k).k, .int .i64 (c.p k).a, .int .i64 (c.p k).b, .int .i64 (c.p k).s, .int .i64 (c.p k).n, .slice (c.p k).ia (c.p k).items.length (c.p k).cap]] W (NumPost W qs)) := fun W hW => by
    rw [hqs]; exact numbers_part k hlt (c.p k) hp W ((HI.out k hlt).ext hW)
   have HNA : Hid (c.numsAt k = if k = 5 then qs.map dec1 else if k = 6 ∧ six = true then [] else qs) := by
    show _ = _
    unfold CronV.numsAt
    rw [HSIX.out, hqs]
    by_cases h5 : k = 5
    ·subst h5; rfl
    ·rw [if_neg h5, if_neg h5]
   have HNS : Hid (c.nums (k + 1) = ls ++ [c.numsAt k]) := by show _ = _; rw [nums_succ, ← HL.out]
   have HXX := Lib.hid (HX.out.trans Hx.out)
   have hszr : w.heap.size + 1 ≤ wr.heap.size := by have := Below.size Hx.out; rw [HSZ.out] at this; exact this
   generalize c.p k = pk at d0 d1 d2 d3 d4 d5 HCX
   clear hp hqs CA
   obtain ⟨q0, q1, q2, q3, q4, q5, q6, q7⟩ := pk
   obtain ⟨L8, hL8⟩ : ∃ L8, L8 = q7.length := ⟨_, rfl⟩
   simp only at d0 d1 d2 d3 d4 d5 HCX
   rw [← hL8] at d5 HCX
   clear hL8
   obtain ⟨xs, hown, hint⟩ := HR.out
   obtain ⟨av, capv, hav⟩ := own_any hown
   rw [hll] at hown hav
   rw [hav] at hown
   subst hav
   have HOW := Lib.hid hown
   have HIN := Lib.hid hint
   clear hown hint HR
   have he := lit_ints wr (w.heap.size + 1) hszr
   have HE0 := Lib.hid he
   have HXE : Hid (Ext wr (wr.alloc (.cells #[] 3))) := Ext.alloc _ _
   clear he
   have d0 := HXE.out.cell d0
   have d1 := HXE.out.cell d1
   have d2 := HXE.out.cell d2
   have d3 := HXE.out.cell d3
   have d4 := HXE.out.cell d4
   have d5 := HXE.out.cell d5
   have c42 := HXE.out.cell c42
   by_cases h5 : k = 5
   ·skip
    subst h5
    go_wp2_with fail
    go_at_call 42
    refine (HCX.out _ (HXX.out.trans HXE.out)).mono ?_
    rintro e w7 ⟨v7, rfl, hI7, x7⟩
    have hI7' : Ints w7 (wr.heap.size + 1) v7 qs := hI7.mono (by simp)
    have hform : 0 < qs.length → ∃ g cap, v7 = .slice (some ⟨g, 0, none⟩) qs.length cap ∧ wr.heap.size + 1 ≤ g := fun h => by
     obtain ⟨g, cap, h1, h2, _⟩ := hI7'.form h
     exact ⟨g, cap, h1, h2⟩
    obtain ⟨al, cl, hal⟩ := own_any hI7'
    rw [hal] at hform hI7'
    subst hal
    have HI7 := Lib.hid hI7'
    obtain ⟨ml, hml⟩ : ∃ ml, ml = qs.length := ⟨_, rfl⟩
    have hform2 : 0 < ml → ∃ g, al = some ⟨g, 0, none⟩ ∧ wr.heap.size + 1 ≤ g := fun h => by
     obtain ⟨g, cap, h1, h2⟩ := hform (by omega)
     injection h1 with h1 _ _
     exact ⟨g, h1, h2⟩
    have HM := Lib.hid hml
    have hmb : ml ≤ 30000 := by omega
    rw [← hml]
    have X7 := Lib.hid (HXE.out.trans x7)
    have hs7 : wr.heap.size + 1 ≤ w7.heap.size := by have := Below.size x7; simpa using this
    clear hI7 hI7' x7 hml d0 d1 d2 d3 d4 d5 c42 hform
    go_wp2_with fail
    obtain ⟨wo, rfl⟩ : ∃ wo : World, wo = wr := ⟨_, rfl⟩
    go_loopw [6] (fun i w8 => ∃ j : Nat, j ≤ ml ∧ i = .int .i64 j ∧ Hid (Ints w8 (wo.heap.size + 1) (.slice al ml cl) (addAt qs j)) ∧ Hid (Below (wo.heap.size + 1) w7 w8))
     (fun i _ => ml - (RowKit.intOf i).toNat)
    case atStart => exact ⟨0, Nat.zero_le _, rfl, by show Ints _ _ _ _; unfold addAt; rw [HM.out]; simpa using HI7.out, Below.refl _ _⟩
    case round =>
     obtain ⟨j, hj, rfl, HJ, HB⟩ := hrel
     by_cases hjl : j < ml
     ·obtain ⟨g, rfl, hg1⟩ := hform2 (by omega)
      obtain ⟨x, hxx⟩ : ∃ x, qs[j]? = some x := ⟨_, List.getElem?_eq_getElem (by rw [← HM.out]; exact hjl)⟩
      have hg := addAt_get qs j x hxx
      have hI := HJ.out
      have hlen := addAt_len qs j
      unfold Ints at hI
      rw [hlen, ← HM.out] at hI
      have hck : wr.cell? ⟨g, j, none⟩ = some (.int .i64 x) := by
       rw [hI.cellAt j (by omega), ints, List.getElem?_map, hg.1]; rfl
      have hfk := hI.frozenAt j
      have Hst := Lib.hid (hI.stored j (.int .i64 (dec1 x)))
      have hw : IntKind.i64.wrap (x - 1) = dec1 x := rfl
      have Hg := Lib.hid hg.2
      clear hI hg hlen hxx
      go_wp2_with fail
      go_roundw
      case rel => exact ⟨j + 1, by omega, by go_num, by rw [← Hg.out]; show World.ownsRow _ _ _ _ _ _ _; rw [List.length_set, addAt_len, ← HM.out]; simpa [ints, List.map_set] using Hst.out.1, Below.setCell HB.out (p := ⟨g, j, none⟩) hg1 _⟩
      case measure => simp [RowKit.intOf] <;> omega
     ·have HI8 : Hid (Ints wr (w.heap.size + 1) (.slice al ml cl) (qs.map dec1)) := by
       have hkn : addAt qs j = qs.map dec1 := by
        have := HM.out
        unfold addAt
        rw [List.take_of_length_le (by omega), List.drop_of_length_le (by omega), List.append_nil]
       have := HJ.out
       rw [hkn] at this
       exact this.mono (by omega)
      have X8 : Hid (Ext wo wr) := Below.trans X7.out (Below.mono HB.out (by omega))
      have own8 := own_ext X8.out HOW.out
      have HIN8 : ∀ (i : Nat) (x : Value) (l : List Int), xs[i]? = some x → ls[i]? = some l → Ints wr (w.heap.size + 1) x l := fun i x l p q => (HIN.out i x l p q).ext X8.out
      have HIN8 := Lib.hid HIN8
      have hs8 := Below.size X8.out
      clear HJ HB
      go_wp2_with (first
       | (at_builtin; refine wpList_append_own _ rfl _ _ 30 rfl (w.heap.size + 1) 38 i0 (.slice none 0 0) 1 24 Tryz.underlying30 hi0 hz0 hz1 hz2 rfl (by decide) _ _ _ rfl (own8.alloc _) ⟨wr.heap.size, 0, none⟩ 1 1 [(.slice al ml cl)] rfl rfl ?c1c ?c2c ?c3c ?c4c ?c5c ?_)
       | go_in)
      try (case c1c => exact cell_one_new _ _ _)
      try (case c2c => first | rfl | (intro u hu; simp at hu; subst hu; rfl))
      try (case c3c => unfold maxLen; omega)
      try (case c4c => omega)
      try (case c5c => first | omega | (simp; omega))
      intro v' w9 hown' hgrow _
      have A1 : Hid (IntRows w9 (w.heap.size + 1) v' (ls ++ [qs.map dec1])) := IntRows.snoc (w := wr) (by rw [hll]; exact own8) HIN8.out HI8.out (by rw [hll]; exact hown') hgrow
      have A4 : Hid (Ext (w.alloc (.cells c.cells 27)) w9) := by
       have hx8 := Hx.out.trans X8.out
       refine Below.grown (Below.alloc hx8 (Below.size hx8) (.cells #[(.slice al ml cl)] 38)) hgrow (by have := Below.size hx8; simp at this ⊢; omega) (fun q hq => ?_)
       have := ((own8.alloc (.cells #[(.slice al ml cl)] 38)).lt q hq).1
       simp; omega
      have HN : Hid (ls ++ [qs.map dec1] = c.nums (5 + 1)) := by show _ = _; rw [HNS.out, HNA.out]; simp
      clear hown' hgrow
      go_wp2_with fail
      go_roundw
      case rel => exact ⟨5 + 1, ls ++ [qs.map dec1], by omega, by go_num, by simp; omega, HN, A1, A4⟩
      case measure => simp [RowKit.intOf] <;> omega
   ·by_cases h6 : k = 6 ∧ six = true
    ·skip
     obtain ⟨rfl, rfl⟩ := h6
     have ownE := HOW.out.alloc (.cells #[] 3)
     have HINE : ∀ (i : Nat) (x : Value) (l : List Int), xs[i]? = some x → ls[i]? = some l → Ints (wr.alloc (.cells #[] 3)) (w.heap.size + 1) x l := fun i x l p q => (HIN.out i x l p q).ext (Ext.alloc _ _)
     have HINE := Lib.hid HINE
     go_wp2_with (first
      | (at_builtin; refine wpList_append_own _ rfl _ _ 30 rfl (w.heap.size + 1) 38 i0 (.slice none 0 0) 1 24 Tryz.underlying30 hi0 hz0 hz1 hz2 rfl (by decide) _ _ _ rfl (ownE.alloc _) ⟨wr.heap.size + 1, 0, none⟩ 1 1 [(.slice (some ⟨wr.heap.size, 0, none⟩) 0 0)] rfl rfl ?c1b ?c2b ?c3b ?c4b ?c5b ?_)
      | go_in)
     try (case c1b => exact cell_one_new _ _ _)
     try (case c2b => first | rfl | (intro u hu; simp at hu; subst hu; rfl))
     try (case c3b => unfold maxLen; omega)
     try (case c4b => omega)
     try (case c5b => first | omega | (simp; omega))
     intro v' w9 hown' hgrow _
     have A1 : Hid (IntRows w9 (w.heap.size + 1) v' (ls ++ [[]])) := IntRows.snoc (w := (wr.alloc (.cells #[] 3))) (by rw [hll]; exact ownE) HINE.out HE0.out (by rw [hll]; exact hown') hgrow
     have A4 : Hid (Ext (w.alloc (.cells c.cells 27)) w9) := by
      have hx8 := Hx.out.trans HXE.out
      refine Below.grown (Below.alloc hx8 (Below.size hx8) (.cells #[(.slice (some ⟨wr.heap.size, 0, none⟩) 0 0)] 38)) hgrow (by have := Below.size hx8; simp at this ⊢; omega) (fun q hq => ?_)
      have := ((ownE.alloc (.cells #[(.slice (some ⟨wr.heap.size, 0, none⟩) 0 0)] 38)).lt q hq).1
      simp; omega
     have HN : Hid (ls ++ [[]] = c.nums (6 + 1)) := by show _ = _; rw [HNS.out, HNA.out]; rw [if_neg (by decide), if_pos (by simp)]
     clear hown' hgrow
     go_wp2_with fail
     go_roundw
     case rel => exact ⟨6 + 1, ls ++ [[]], by omega, by go_num, by simp; omega, HN, A1, A4⟩
     case measure => simp [RowKit.intOf] <;> omega
    ·skip
     have hb5 : ((k : Int) == 5) = false := by rw [beq_eq_false_iff_ne]; omega
     have hx7 : (k : Int) < 6 ∨ (k = 6 ∧ six = false) := by
      by_cases h : k = 6
      ·refine .inr ⟨h, ?_⟩
       rcases six
       ·rfl
       ·exact absurd ⟨h, rfl⟩ h6
      ·exact .inl (by omega)
     rcases hx7 with hx7 | ⟨rfl, hx7⟩
     ·skip
      go_wp2_with fail
      go_at_call 42
      refine (HCX.out _ (HXX.out.trans HXE.out)).mono ?_
      rintro e w7 ⟨v7, rfl, hI7, x7⟩
      have hI7' : Ints w7 (w.heap.size + 1) v7 qs := hI7.mono (by simp; omega)
      obtain ⟨al, cl, hal⟩ := own_any hI7'
      obtain ⟨ml, hml⟩ : ∃ ml, ml = qs.length := ⟨_, rfl⟩
      rw [← hml] at hal
      subst hal
      have HI7 := Lib.hid hI7'
      have X7 := Lib.hid (HXE.out.trans x7)
      have own7 := own_ext X7.out HOW.out
      have HIN7 : ∀ (i : Nat) (x : Value) (l : List Int), xs[i]? = some x → ls[i]? = some l → Ints w7 (w.heap.size + 1) x l := fun i x l p q => (HIN.out i x l p q).ext X7.out
      have HIN7 := Lib.hid HIN7
      have hs7 := Below.size X7.out
      clear hI7 hI7' x7 hml d0 d1 d2 d3 d4 d5 c42
      go_wp2_with (first
       | (at_builtin; refine wpList_append_own _ rfl _ _ 30 rfl (w.heap.size + 1) 38 i0 (.slice none 0 0) 1 24 Tryz.underlying30 hi0 hz0 hz1 hz2 rfl (by decide) _ _ _ rfl (own7.alloc _) ⟨w7.heap.size, 0, none⟩ 1 1 [(.slice al ml cl)] rfl rfl ?c1d ?c2d ?c3d ?c4d ?c5d ?_)
       | go_in)
      try (case c1d => exact cell_one_new _ _ _)
      try (case c2d => first | rfl | (intro u hu; simp at hu; subst hu; rfl))
      try (case c3d => unfold maxLen; omega)
      try (case c4d => omega)
      try (case c5d => first | omega | (simp; omega))
      intro v' w9 hown' hgrow _
      have A1 : Hid (IntRows w9 (w.heap.size + 1) v' (ls ++ [qs])) := IntRows.snoc (w := w7) (by rw [hll]; exact own7) HIN7.out HI7.out (by rw [hll]; exact hown') hgrow
      have A4 : Hid (Ext (w.alloc (.cells c.cells 27)) w9) := by
       have hx8 := Hx.out.trans X7.out
       refine Below.grown (Below.alloc hx8 (Below.size hx8) (.cells #[(.slice al ml cl)] 38)) hgrow (by have := Below.size hx8; simp at this ⊢; omega) (fun q hq => ?_)
       have := ((own7.alloc (.cells #[(.slice al ml cl)] 38)).lt q hq).1
       simp; omega
      have HN : Hid (ls ++ [qs] = c.nums (k + 1)) := by show _ = _; rw [HNS.out, HNA.out]; rw [if_neg h5, if_neg h6]
      clear hown' hgrow
      go_wp2_with fail
      go_roundw
      case rel => exact ⟨k + 1, ls ++ [qs], by omega, by go_num, by simp; omega, HN, A1, A4⟩
      case measure => simp [RowKit.intOf] <;> omega
     ·skip
      subst hx7
      go_wp2_with fail
      go_at_call 42
      refine (HCX.out _ (HXX.out.trans HXE.out)).mono ?_
      rintro e w7 ⟨v7, rfl, hI7, x7⟩
      have hI7' : Ints w7 (w.heap.size + 1) v7 qs := hI7.mono (by simp; omega)
      obtain ⟨al, cl, hal⟩ := own_any hI7'
      obtain ⟨ml, hml⟩ : ∃ ml, ml = qs.length := ⟨_, rfl⟩
      rw [← hml] at hal
      subst hal
      have HI7 := Lib.hid hI7'
      have X7 := Lib.hid (HXE.out.trans x7)
      have own7 := own_ext X7.out HOW.out
      have HIN7 : ∀ (i : Nat) (x : Value) (l : List Int), xs[i]? = some x → ls[i]? = some l → Ints w7 (w.heap.size + 1) x l := fun i x l p q => (HIN.out i x l p q).ext X7.out
      have HIN7 := Lib.hid HIN7
      have hs7 := Below.size X7.out
      clear hI7 hI7' x7 hml d0 d1 d2 d3 d4 d5 c42
      go_wp2_with (first
       | (at_builtin; refine wpList_append_own _ rfl _ _ 30 rfl (w.heap.size + 1) 38 i0 (.slice none 0 0) 1 24 Tryz.underlying30 hi0 hz0 hz1 hz2 rfl (by decide) _ _ _ rfl (own7.alloc _) ⟨w7.heap.size, 0, none⟩ 1 1 [(.slice al ml cl)] rfl rfl ?c1e ?c2e ?c3e ?c4e ?c5e ?_)
       | go_in)
      try (case c1e => exact cell_one_new _ _ _)
      try (case c2e => first | rfl | (intro u hu; simp at hu; subst hu; rfl))
      try (case c3e => unfold maxLen; omega)
      try (case c4e => omega)
      try (case c5e => first | omega | (simp; omega))
      intro v' w9 hown' hgrow _
      have A1 : Hid (IntRows w9 (w.heap.size + 1) v' (ls ++ [qs])) := IntRows.snoc (w := w7) (by rw [hll]; exact own7) HIN7.out HI7.out (by rw [hll]; exact hown') hgrow
      have A4 : Hid (Ext (w.alloc (.cells c.cells 27)) w9) := by
       have hx8 := Hx.out.trans X7.out
       refine Below.grown (Below.alloc hx8 (Below.size hx8) (.cells #[(.slice al ml cl)] 38)) hgrow (by have := Below.size hx8; simp at this ⊢; omega) (fun q hq => ?_)
       have := ((own7.alloc (.cells #[(.slice al ml cl)] 38)).lt q hq).1
       simp; omega
      have HN : Hid (ls ++ [qs] = c.nums (6 + 1)) := by show _ = _; rw [HNS.out, HNA.out]; rw [if_neg h5, if_neg h6]
      clear hown' hgrow
      go_wp2_with fail
      go_roundw
      case rel => exact ⟨6 + 1, ls ++ [qs], by omega, by go_num, by simp; omega, HN, A1, A4⟩
      case measure => simp [RowKit.intOf] <;> omega
  ·have hk7 : k = 7 := by omega
   subst hk7
   go_wp2_with fail
   go_ret
   exact ⟨_, rfl, by rw [← HL.out]; exact HR.out.mono (by omega), HX.out.trans Hx.out⟩
end Go.Proofs.YtmaffdhcmdhjfaaGreatDoor
namespace Go.Proofs.YtmaffdhcmdhjfaaGreatDoor
open Go.RowKit Go.Lib
theorem fits_any (c : CronV) (w : World) : Calls Tryz.prog 12 #[.agg c.cells] w fun e w' => e = .returned (.bool true) ∧ Ext w w' := by
 go_enter Tryz.func12, Tryz.ntmps12
 go_wp2
 go_ret
 exact ⟨rfl, Ext.alloc _ _⟩
theorem IntRows.form {w : World} {base : Nat} {v : Value} {ls : List (List Int)} (h : IntRows w base v ls) (hn : 0 < ls.length) :
 ∃ g cap, v = .slice (some ⟨g, 0, none⟩) ls.length cap ∧ ∀ (i : Nat) (l : List Int), ls[i]? = some l → ∃ ax cx, w.cell? ⟨g, i, none⟩ = some (.slice ax l.length cx) ∧
  (0 < l.length → ∃ gx, ax = some ⟨gx, 0, none⟩ ∧ ∀ (j : Nat) (z : Int), l[j]? = some z → w.cell? ⟨gx, j, none⟩ = some (.int .i64 z)) := by
 obtain ⟨xs, ho, hi⟩ := h
 obtain ⟨g, cap, rfl, _, _⟩ := World.ownsRow.form ho hn
 refine ⟨g, cap, rfl, fun i l hl => ?_⟩
 have hil : i < ls.length := (List.getElem?_eq_some_iff.mp hl).1
 have hxl : xs.length = ls.length := by have := ho.1; omega
 obtain ⟨x, hx⟩ : ∃ x, xs[i]? = some x := ⟨_, List.getElem?_eq_getElem (by omega)⟩
 have hc := World.ownsRow.cellAt ho i (by simpa using hil)
 rw [hx] at hc
 have hI := hi i x l hx hl
 obtain ⟨ax, cx, rfl⟩ := own_any hI
 refine ⟨ax, cx, hc, fun hpos => ?_⟩
 obtain ⟨gx, cap', he, _, _, hcell⟩ := hI.form hpos
 injection he with he1
 exact ⟨gx, he1, hcell⟩
structure SameW (w : World) (W : World) : Prop where
 x : Ext w W
theorem SameW.step {w W W' : World} (h : SameW w W) (x : Ext W W') : SameW w W' := ⟨h.x.trans x⟩
set_option maxHeartbeats 6400000 in
set_option maxRecDepth 1000000 in
theorem same_true (c : CronV) (va vb : Value) (ba bb : Nat) (la lb : List (List Int)) (ha7 : la.length = 7) (hb7 : lb.length = 7) (hs : ∀ i, i < 7 → (c.p i).k < 8 → la[i]? = lb[i]?)
 (hlb : ∀ l ∈ lb, l.length ≤ 100000000) (w : World) (hA : IntRows w ba va la) (hB : IntRows w bb vb lb) :
 Calls Tryz.prog 18 #[.agg c.cells, va, vb] w fun e w' => e = .returned (.bool true) ∧ Ext w w' := by
 obtain ⟨ga, capa, hva, hca⟩ := hA.form (by omega)
 obtain ⟨gb, capb, hvb, hcb⟩ := hB.form (by omega)
 rw [ha7] at hva
 rw [hb7] at hvb
 subst hva hvb
 have HCA := Lib.hid hca
 have HCB := Lib.hid hcb
 have HS := Lib.hid hs
 have HLB := Lib.hid hlb
 have H7A := Lib.hid ha7
 have H7B := Lib.hid hb7
 have HC : Hid (CronAt (w.alloc (.cells c.cells 27)) w.heap.size c) := cron_alloc w c
 have HX : Hid (Ext w (w.alloc (.cells c.cells 27))) := Ext.alloc _ _
 clear hA hB hca hcb hs hlb ha7 hb7
 go_enter Tryz.func18, Tryz.ntmps18
 go_wp2_with fail
 go_loopw [7, 8] (fun i _ wr => ∃ (k : Nat), k ≤ 7 ∧ i = .int .i64 k ∧ Hid (Ext (w.alloc (.cells c.cells 27)) wr))
  (fun i _ _ => 7 - (RowKit.intOf i).toNat)
 case atStart => exact ⟨0, Nat.zero_le _, rfl, Ext.refl _⟩
 case round =>
  obtain ⟨k, hk, rfl, Hx⟩ := hrel
  by_cases hlt : k < 7
  ·have CA := HC.out.ext Hx.out
   have d0 := CA.k k hlt
   have d1 := CA.a k hlt
   have d2 := CA.b k hlt
   have d3 := CA.s k hlt
   have d4 := CA.n k hlt
   have d5 := CA.it k hlt
   have HXX := Lib.hid (HX.out.trans Hx.out)
   obtain ⟨l, hl⟩ : ∃ l, lb[k]? = some l := ⟨_, List.getElem?_eq_getElem (by have := H7B.out; omega)⟩
   have hll : l.length ≤ 100000000 := HLB.out l (List.mem_of_getElem? hl)
   have HSK : Hid ((c.p k).k < 8 → la[k]? = some l) := fun h => (HS.out k hlt h).trans hl
   have HPL : Hid (∀ W, Calls Tryz.prog 41 #[.agg #[.int .i64 (c.p k).k, .int .i64 (c.p k).a, .int .i64 (c.p k).b, .int .i64 (c.p k).s, .int .i64 (c.p k).n, .slice (c.p k).ia (c.p k).items.length (c.p k).cap]] W fun e w' => e = .returned (.bool (decide ((c.p k).k < 8))) ∧ Ext W w') := fun W => plain_any _ _ _ _ _ _ W
   obtain ⟨axb, cxb, hcb, hcb2⟩ := HCB.out k l hl
   generalize c.p k = pk at d0 d1 d2 d3 d4 d5 HSK HPL
   clear CA hl
   obtain ⟨q0, q1, q2, q3, q4, q5, q6, q7⟩ := pk
   obtain ⟨L8, hL8⟩ : ∃ L8, L8 = q7.length := ⟨_, rfl⟩
   simp only at d0 d1 d2 d3 d4 d5 HPL HSK
   rw [← hL8] at d5 HPL
   clear hL8
   go_wp2_with fail
   go_at_call 41
   refine (HPL.out _).mono ?_
   rintro e w4 ⟨rfl, x4⟩
   have X4 := Lib.hid (Hx.out.trans x4)
   have XX4 := Lib.hid (HXX.out.trans x4)
   clear x4 d0 d1 d2 d3 d4 d5
   rcases hq : decide (q0 < 8)
   ·clear hq
    go_wp2_with fail
    go_roundw
    case rel => exact ⟨k + 1, by omega, by go_num, X4⟩
    case measure => simp [RowKit.intOf] <;> omega
   ·have hla := HSK.out (by simpa using hq)
    obtain ⟨axa, cxa, hca, hca2⟩ := HCA.out k l hla
    have ca := XX4.out.cell hca
    have cb := XX4.out.cell hcb
    obtain ⟨n, hn⟩ : ∃ n, n = l.length := ⟨_, rfl⟩
    rw [← hn] at ca cb hll hca2 hcb2
    have HA2 := Lib.hid hca2
    have HB2 := Lib.hid hcb2
    have CAh := Lib.hid ca
    have CBh := Lib.hid cb
    have HN := Lib.hid hn
    clear hq hla hca hcb hca2 hcb2 ca cb hn HSK
    have hk0 : (0 : Int) ≤ (k : Int) := by omega
    have hk7 : (k : Int) < 7 := by omega
    go_wp2_with fail
    obtain ⟨T, g, hT, h0, hS, hI⟩ := cls_intro (SameW w4) _ (SameW.step ⟨Ext.refl _⟩ (Ext.drew _))
    have ca := fun t => (hS t).x.cell CAh.out
    have cb := fun t => (hS t).x.cell CBh.out
    have HS1 := Lib.hid hS
    clear hS hI
    refine wp_region_cls g (by kernel_rfl) (by kernel_rfl) h0 ?_
    clear h0
    repeat (go_big_quiet_step (fail))
    refine wpQuiet_nil ?_
    rintro _ ⟨t, rfl⟩
    have X5 := Lib.hid (HS1.out t)
    clear ca cb HS1
    generalize g t = w5 at X5
    clear hT t g T
    go_wp2_with fail
    obtain ⟨wo, rfl⟩ : ∃ wo : World, wo = wr := ⟨_, rfl⟩
    go_loopw [8] (fun i wr => ∃ j : Nat, j ≤ n ∧ i = .int .i64 j ∧ Hid (Ext w4 wr))
     (fun i _ => n - (RowKit.intOf i).toNat)
    case atStart => exact ⟨0, Nat.zero_le _, rfl, X5.out.x⟩
    case round =>
     obtain ⟨j, hj, rfl, Hj⟩ := hrel
     have ca := Hj.out.cell CAh.out
     have cb := Hj.out.cell CBh.out
     by_cases hjl : j < n
     ·obtain ⟨gxa, rfl, hza⟩ := HA2.out (by omega)
      obtain ⟨gxb, rfl, hzb⟩ := HB2.out (by omega)
      obtain ⟨z, hz⟩ : ∃ z, l[j]? = some z := ⟨_, List.getElem?_eq_getElem (by rw [← HN.out]; exact hjl)⟩
      have cza := Lib.hid (XX4.out.cell (hza j z hz))
      have czb := Lib.hid (XX4.out.cell (hzb j z hz))
      have hj0 : (0 : Int) ≤ (j : Int) := by omega
      have hjn : (j : Int) < (n : Int) := by omega
      clear hza hzb hz
      go_wp2_with fail
      obtain ⟨T, g, hT, h0, hS, hI⟩ := cls_intro (SameW w4) _ (SameW.step ⟨Hj.out⟩ (Ext.drew _))
      clear ca cb
      have ca := fun t => (hS t).x.cell CAh.out
      have cb := fun t => (hS t).x.cell CBh.out
      have za := fun t => (hS t).x.cell cza.out
      have zb := fun t => (hS t).x.cell czb.out
      have HS1 := Lib.hid hS
      clear hS hI
      refine wp_region_cls g (by kernel_rfl) (by kernel_rfl) h0 ?_
      clear h0
      repeat (go_big_quiet_step (fail))
      refine wpQuiet_nil ?_
      rintro _ ⟨t, rfl⟩
      have X6 := Lib.hid (HS1.out t)
      clear ca cb za zb HS1
      generalize g t = w6 at X6
      clear hT t g T
      go_wp2_with fail
      go_roundw
      case rel => exact ⟨j + 1, by omega, by go_num, X6.out.x⟩
      case measure => simp [RowKit.intOf] <;> omega
     ·go_wp2_with fail
      go_roundw
      case rel => exact ⟨k + 1, by omega, by go_num, X4.out.trans Hj.out⟩
      case measure => simp [RowKit.intOf] <;> omega
  ·go_wp2_with fail
   go_ret
   exact ⟨rfl, HX.out.trans Hx.out⟩
end Go.Proofs.YtmaffdhcmdhjfaaGreatDoor
