/- spec.numbers. -/
import Derived.Test.YtmaffdhcmdhjfaaGreatDoorSpH
namespace Go.Proofs.YtmaffdhcmdhjfaaGreatDoor
open Go.RowKit Go.Lib

/-- the boxed part is there, and the slice of numbers, empty -/
structure NumS (w : World) (k a b s : Int) (W : World) : Prop where
  bx : Boxed w k a b s W
  out : Ints W w.heap.size (.slice (some ⟨w.heap.size + 1, 0, none⟩) 0 0) []
theorem NumS.step {w : World} {k a b s : Int} {W W' : World} (h : NumS w k a b s W) (x : Ext W W') : NumS w k a b s W' := ⟨h.bx.step x, h.out.ext x⟩

theorem steps_prefix (a s : Int) (k : Nat) : (List.range (k + 1)).map (fun i : Nat => a + s * (i : Int)) = (List.range k).map (fun i : Nat => a + s * (i : Int)) ++ [a + s * (k : Int)] := by
  rw [List.range_succ, List.map_append]; rfl

/-- what numbers of a part that is no list gives -/
def NumPost (w : World) (l : List Int) (en : Ending) (w' : World) : Prop := ∃ v, en = .returned v ∧ Ints w' w.heap.size v l ∧ Ext w w'
theorem num_post {w : World} {l l' : List Int} {v : Value} {w' : World} (h : Ints w' w.heap.size v l') (e : l = l') (x : Ext w w') : NumPost w l (.returned v) w' := ⟨v, rfl, by rw [e]; exact h, x⟩

set_option maxHeartbeats 6400000 in
set_option maxRecDepth 1000000 in
theorem numbers_2 (f : Nat) (hf : f < 7) (a b s n : Int) (it : Value) (hh : leastF f ≤ a ∧ a ≤ mostF f) (w : World) :
    Calls Tryz.prog 42 #[.int .i64 f, .agg #[.int .i64 2, .int .i64 a, .int .i64 b, .int .i64 s, .int .i64 n, it]] w (NumPost w (numsA f 2 a b s)) := by
  obtain ⟨i0, hi0, hz0, hz1, hz2⟩ := info_parts Tryz.info3
  obtain ⟨R, hR⟩ : ∃ R, R = numsA f 2 a b s := ⟨_, rfl⟩
  rw [← hR]
  obtain ⟨lo, hlo⟩ : ∃ lo, lo = leastF f := ⟨_, rfl⟩
  obtain ⟨hi, hhi⟩ : ∃ hi, hi = mostF f := ⟨_, rfl⟩
  have hlo0 : 0 ≤ lo ∧ lo ≤ 1970 := by rw [hlo]; exact least_bd f
  have hhi0 : 7 ≤ hi ∧ hi ≤ 2199 := by rw [hhi]; exact most_bd f
  have hlh : lo ≤ hi := by rw [hlo, hhi]; exact least_le_most f
  have HLs : Hid (∀ W, NumS w 2 a b s W → Calls Tryz.prog 58 #[.int .i64 f] W fun e W' => e = .returned (.int .i64 lo) ∧ NumS w 2 a b s W') := fun W hW => by
    rw [hlo]
    refine (least_any f hf W).mono ?_
    rintro e w1 ⟨rfl, x⟩
    exact ⟨rfl, hW.step x⟩
  have HMs : Hid (∀ W, NumS w 2 a b s W → Calls Tryz.prog 57 #[.int .i64 f] W fun e W' => e = .returned (.int .i64 hi) ∧ NumS w 2 a b s W') := fun W hW => by
    rw [hhi]
    refine (most_any f hf W).mono ?_
    rintro e w1 ⟨rfl, x⟩
    exact ⟨rfl, hW.step x⟩
  simp only [← hlo, ← hhi] at hh
  have HR : Hid (R = stepsL a a 1) := by show _ = _; rw [hR]; simp [numsA, hlo, hhi]
  clear hR hlo hhi
  have HB : Hid (NumS w 2 a b s ((w.alloc (.cells #[.int .i64 2, .int .i64 a, .int .i64 b, .int .i64 s, .int .i64 n, it] 24)).alloc (.cells #[] 3))) := by
    have hb : Boxed w 2 a b s (w.alloc (.cells #[.int .i64 2, .int .i64 a, .int .i64 b, .int .i64 s, .int .i64 n, it] 24)) := ⟨Ext.alloc _ _, by simp, by simp, by simp, by simp⟩
    refine ⟨hb.step (Ext.alloc _ _), ?_⟩
    have h := World.ownsRow_lit (w.alloc (.cells #[.int .i64 2, .int .i64 a, .int .i64 b, .int .i64 s, .int .i64 n, it] 24)) (base := w.heap.size) (e := 3) (size := 1) #[] 0 (by simp) (by decide) rfl
    have e : (w.alloc (.cells #[.int .i64 2, .int .i64 a, .int .i64 b, .int .i64 s, .int .i64 n, it] 24)).heap.size = w.heap.size + 1 := by simp
    rw [e] at h
    exact h
  go_enter Tryz.func42, Tryz.ntmps42
  go_wp2_with fail
  obtain ⟨T, g, hT, h0, hS, hI⟩ := cls_intro (NumS w _ a b s) _ (NumS.step HB.out (Ext.drew _))
  have c0 := fun t => (hS t).bx.2.1
  have c1 := fun t => (hS t).bx.2.2.1
  have c2 := fun t => (hS t).bx.2.2.2.1
  have c3 := fun t => (hS t).bx.2.2.2.2
  have HS := Lib.hid hS
  have HI := Lib.hid hI
  clear hS hI
  refine wp_region_cls g (by kernel_rfl) (by kernel_rfl) h0 ?_
  clear h0
  repeat (go_big_quiet_step (first
    | (go_at_call 58; exact calls_cls HI.out (HLs.out _ (HS.out _)))
    | (go_at_call 57; exact calls_cls HI.out (HMs.out _ (HS.out _)))))
  refine wpQuiet_nil ?_
  rintro _ ⟨t, rfl⟩
  clear c0 c1 c2 c3
  have HB := Lib.hid (HS.out t)
  clear HS HI
  generalize g t = w2 at HB
  clear hT t g T
  have c0 := HB.out.bx.2.1
  have c1 := HB.out.bx.2.2.1
  have c2 := HB.out.bx.2.2.2.1
  have c3 := HB.out.bx.2.2.2.2
  go_wp2_with fail
  have HX2 := Lib.hid HB.out.bx.1
  have HO2 := Lib.hid HB.out.out
  clear HB c0 c1 c2 c3
  obtain ⟨cnt, hcnt⟩ : ∃ cnt, cnt = ((a - a) / 1).toNat + 1 := ⟨_, rfl⟩
  have HST : Hid (∀ k : Nat, k < cnt ↔ a + 1 * k ≤ a) := by intro k; rw [hcnt]; exact step_lt a a 1 (by omega) (by omega) k
  have HRL : Hid (R = (List.range cnt).map fun i : Nat => a + 1 * (i : Int)) := by show _ = _; rw [hcnt, HR.out]; rfl
  clear hcnt
  go_loopw [5, 10] (fun v i wr => ∃ (k : Nat) (x : Int) (P : List Int), i = .int .i64 x ∧ Hid (x = a + 1 * k) ∧ a ≤ x ∧ x ≤ a + 1 ∧ Hid (k ≤ cnt) ∧ Hid (P = (List.range k).map fun i : Nat => a + 1 * (i : Int)) ∧ Hid (Ints wr w.heap.size v P) ∧ Hid (Ext w wr))
    (fun _ i _ => (a + 1 + 1 - RowKit.intOf i).toNat)
  case atStart => exact ⟨0, a, [], rfl, by show _ = _; simp, by omega, by omega, Nat.zero_le _, rfl, HO2.out, HX2.out⟩
  case round =>
    obtain ⟨k, x, P, rfl, Hx, hx1, hx2, Hk, HP, Hv, Hw⟩ := hrel
    by_cases hle : x ≤ a
    · have hv' := Hv.out
      have HK : Hid (k < cnt) := by show _ < _; rw [HST.out k, ← Hx.out]; exact hle
      obtain ⟨av, capv, hav⟩ := own_any hv'
      rw [hav] at hv'
      subst hav
      obtain ⟨lv, hlv⟩ : ∃ lv, lv = P.length := ⟨_, rfl⟩
      have hlk : lv = k := by rw [hlv, HP.out]; simp
      have hkb : k ≤ 100000 := by
        have h1 := Hx.out
        have h2 : (k : Int) ≤ 1 * (k : Int) := by
          have := Int.mul_le_mul_of_nonneg_right (show (1 : Int) ≤ 1 by omega) (Int.natCast_nonneg k)
          omega
        omega
      have HV := Lib.hid hv'
      have own0 : wr.ownsRow w.heap.size 3 1 (.slice av lv capv) lv (ints P) := by rw [hlv]; exact hv'
      have HOW := Lib.hid own0
      rw [← hlv]
      have HLV := Lib.hid hlk
      have hlvb : lv ≤ 100000 := by omega
      have hxw := Below.size Hw.out
      clear hv' hlv hlk Hv HV
      go_wp2_with (first
        | (at_builtin; refine wpList_append_own _ rfl _ _ 38 rfl w.heap.size 3 i0 (.int .i64 0) 1 8 Tryz.underlying38 hi0 hz0 hz1 hz2 rfl (by decide) _ _ _ rfl (own0.alloc _) ⟨wr.heap.size, 0, none⟩ 1 1 [.int .i64 x] rfl rfl ?c1 ?c2 ?c3 ?c4 ?c5 ?_)
        | go_in)
      case c1 => exact cell_one_new _ _ _
      case c2 => intro u hu; simp at hu; subst hu; rfl
      case c3 => unfold maxLen; omega
      case c4 => omega
      case c5 => simp; omega
      intro v' w5 hown' hgrow _
      have A1 : Hid (Ints w5 w.heap.size v' (P ++ [x])) := by
        show World.ownsRow _ _ _ _ _ _ _
        have e : (P ++ [x]).length = lv + 1 := by rw [HLV.out, HP.out]; simp
        rw [ints_append, e]
        exact hown'
      have AP : Hid (P ++ [x] = (List.range (k + 1)).map fun i : Nat => a + 1 * (i : Int)) := by show _ = _; rw [steps_prefix, ← Hx.out, HP.out]
      have A5 : Hid (Ext w w5) := Below.grown (Hw.out.trans (Ext.alloc wr _)) hgrow (by have := (Hw.out.trans (Ext.alloc wr (.cells #[.int .i64 x] 3))).size; exact this) (fun q hq => ((own0.alloc (.cells #[.int .i64 x] 3)).lt q hq).1)
      clear hown' hgrow own0
      go_wp2_with fail
      go_roundw
      case rel => exact ⟨k + 1, x + 1, P ++ [x], rfl, by show _ = _; rw [Hx.out]; simp [Int.mul_add, Int.add_assoc], by omega, by omega, HK.out, AP, A1, A5⟩
      case measure => simp [RowKit.intOf]; omega
    · have HK : Hid (k = cnt) := by
        show _ = _
        have h1 : ¬ k < cnt := by rw [HST.out k, ← Hx.out]; exact hle
        have h2 := Hk.out
        omega
      go_wp2_with fail
      go_ret
      exact num_post Hv.out (by rw [HRL.out, HP.out, HK.out]) Hw.out

set_option maxHeartbeats 6400000 in
set_option maxRecDepth 1000000 in
theorem numbers_3 (f : Nat) (hf : f < 7) (a b s n : Int) (it : Value) (hh : leastF f ≤ a ∧ a ≤ b ∧ b ≤ mostF f) (w : World) :
    Calls Tryz.prog 42 #[.int .i64 f, .agg #[.int .i64 3, .int .i64 a, .int .i64 b, .int .i64 s, .int .i64 n, it]] w (NumPost w (numsA f 3 a b s)) := by
  obtain ⟨i0, hi0, hz0, hz1, hz2⟩ := info_parts Tryz.info3
  obtain ⟨R, hR⟩ : ∃ R, R = numsA f 3 a b s := ⟨_, rfl⟩
  rw [← hR]
  obtain ⟨lo, hlo⟩ : ∃ lo, lo = leastF f := ⟨_, rfl⟩
  obtain ⟨hi, hhi⟩ : ∃ hi, hi = mostF f := ⟨_, rfl⟩
  have hlo0 : 0 ≤ lo ∧ lo ≤ 1970 := by rw [hlo]; exact least_bd f
  have hhi0 : 7 ≤ hi ∧ hi ≤ 2199 := by rw [hhi]; exact most_bd f
  have hlh : lo ≤ hi := by rw [hlo, hhi]; exact least_le_most f
  have HLs : Hid (∀ W, NumS w 3 a b s W → Calls Tryz.prog 58 #[.int .i64 f] W fun e W' => e = .returned (.int .i64 lo) ∧ NumS w 3 a b s W') := fun W hW => by
    rw [hlo]
    refine (least_any f hf W).mono ?_
    rintro e w1 ⟨rfl, x⟩
    exact ⟨rfl, hW.step x⟩
  have HMs : Hid (∀ W, NumS w 3 a b s W → Calls Tryz.prog 57 #[.int .i64 f] W fun e W' => e = .returned (.int .i64 hi) ∧ NumS w 3 a b s W') := fun W hW => by
    rw [hhi]
    refine (most_any f hf W).mono ?_
    rintro e w1 ⟨rfl, x⟩
    exact ⟨rfl, hW.step x⟩
  simp only [← hlo, ← hhi] at hh
  have HR : Hid (R = stepsL a b 1) := by show _ = _; rw [hR]; simp [numsA, hlo, hhi]
  clear hR hlo hhi
  have HB : Hid (NumS w 3 a b s ((w.alloc (.cells #[.int .i64 3, .int .i64 a, .int .i64 b, .int .i64 s, .int .i64 n, it] 24)).alloc (.cells #[] 3))) := by
    have hb : Boxed w 3 a b s (w.alloc (.cells #[.int .i64 3, .int .i64 a, .int .i64 b, .int .i64 s, .int .i64 n, it] 24)) := ⟨Ext.alloc _ _, by simp, by simp, by simp, by simp⟩
    refine ⟨hb.step (Ext.alloc _ _), ?_⟩
    have h := World.ownsRow_lit (w.alloc (.cells #[.int .i64 3, .int .i64 a, .int .i64 b, .int .i64 s, .int .i64 n, it] 24)) (base := w.heap.size) (e := 3) (size := 1) #[] 0 (by simp) (by decide) rfl
    have e : (w.alloc (.cells #[.int .i64 3, .int .i64 a, .int .i64 b, .int .i64 s, .int .i64 n, it] 24)).heap.size = w.heap.size + 1 := by simp
    rw [e] at h
    exact h
  go_enter Tryz.func42, Tryz.ntmps42
  go_wp2_with fail
  obtain ⟨T, g, hT, h0, hS, hI⟩ := cls_intro (NumS w _ a b s) _ (NumS.step HB.out (Ext.drew _))
  have c0 := fun t => (hS t).bx.2.1
  have c1 := fun t => (hS t).bx.2.2.1
  have c2 := fun t => (hS t).bx.2.2.2.1
  have c3 := fun t => (hS t).bx.2.2.2.2
  have HS := Lib.hid hS
  have HI := Lib.hid hI
  clear hS hI
  refine wp_region_cls g (by kernel_rfl) (by kernel_rfl) h0 ?_
  clear h0
  repeat (go_big_quiet_step (first
    | (go_at_call 58; exact calls_cls HI.out (HLs.out _ (HS.out _)))
    | (go_at_call 57; exact calls_cls HI.out (HMs.out _ (HS.out _)))))
  refine wpQuiet_nil ?_
  rintro _ ⟨t, rfl⟩
  clear c0 c1 c2 c3
  have HB := Lib.hid (HS.out t)
  clear HS HI
  generalize g t = w2 at HB
  clear hT t g T
  have c0 := HB.out.bx.2.1
  have c1 := HB.out.bx.2.2.1
  have c2 := HB.out.bx.2.2.2.1
  have c3 := HB.out.bx.2.2.2.2
  go_wp2_with fail
  have HX2 := Lib.hid HB.out.bx.1
  have HO2 := Lib.hid HB.out.out
  clear HB c0 c1 c2 c3
  obtain ⟨cnt, hcnt⟩ : ∃ cnt, cnt = ((b - a) / 1).toNat + 1 := ⟨_, rfl⟩
  have HST : Hid (∀ k : Nat, k < cnt ↔ a + 1 * k ≤ b) := by intro k; rw [hcnt]; exact step_lt a b 1 (by omega) (by omega) k
  have HRL : Hid (R = (List.range cnt).map fun i : Nat => a + 1 * (i : Int)) := by show _ = _; rw [hcnt, HR.out]; rfl
  clear hcnt
  go_loopw [5, 10] (fun v i wr => ∃ (k : Nat) (x : Int) (P : List Int), i = .int .i64 x ∧ Hid (x = a + 1 * k) ∧ a ≤ x ∧ x ≤ b + 1 ∧ Hid (k ≤ cnt) ∧ Hid (P = (List.range k).map fun i : Nat => a + 1 * (i : Int)) ∧ Hid (Ints wr w.heap.size v P) ∧ Hid (Ext w wr))
    (fun _ i _ => (b + 1 + 1 - RowKit.intOf i).toNat)
  case atStart => exact ⟨0, a, [], rfl, by show _ = _; simp, by omega, by omega, Nat.zero_le _, rfl, HO2.out, HX2.out⟩
  case round =>
    obtain ⟨k, x, P, rfl, Hx, hx1, hx2, Hk, HP, Hv, Hw⟩ := hrel
    by_cases hle : x ≤ b
    · have hv' := Hv.out
      have HK : Hid (k < cnt) := by show _ < _; rw [HST.out k, ← Hx.out]; exact hle
      obtain ⟨av, capv, hav⟩ := own_any hv'
      rw [hav] at hv'
      subst hav
      obtain ⟨lv, hlv⟩ : ∃ lv, lv = P.length := ⟨_, rfl⟩
      have hlk : lv = k := by rw [hlv, HP.out]; simp
      have hkb : k ≤ 100000 := by
        have h1 := Hx.out
        have h2 : (k : Int) ≤ 1 * (k : Int) := by
          have := Int.mul_le_mul_of_nonneg_right (show (1 : Int) ≤ 1 by omega) (Int.natCast_nonneg k)
          omega
        omega
      have HV := Lib.hid hv'
      have own0 : wr.ownsRow w.heap.size 3 1 (.slice av lv capv) lv (ints P) := by rw [hlv]; exact hv'
      have HOW := Lib.hid own0
      rw [← hlv]
      have HLV := Lib.hid hlk
      have hlvb : lv ≤ 100000 := by omega
      have hxw := Below.size Hw.out
      clear hv' hlv hlk Hv HV
      go_wp2_with (first
        | (at_builtin; refine wpList_append_own _ rfl _ _ 38 rfl w.heap.size 3 i0 (.int .i64 0) 1 8 Tryz.underlying38 hi0 hz0 hz1 hz2 rfl (by decide) _ _ _ rfl (own0.alloc _) ⟨wr.heap.size, 0, none⟩ 1 1 [.int .i64 x] rfl rfl ?c1 ?c2 ?c3 ?c4 ?c5 ?_)
        | go_in)
      case c1 => exact cell_one_new _ _ _
      case c2 => intro u hu; simp at hu; subst hu; rfl
      case c3 => unfold maxLen; omega
      case c4 => omega
      case c5 => simp; omega
      intro v' w5 hown' hgrow _
      have A1 : Hid (Ints w5 w.heap.size v' (P ++ [x])) := by
        show World.ownsRow _ _ _ _ _ _ _
        have e : (P ++ [x]).length = lv + 1 := by rw [HLV.out, HP.out]; simp
        rw [ints_append, e]
        exact hown'
      have AP : Hid (P ++ [x] = (List.range (k + 1)).map fun i : Nat => a + 1 * (i : Int)) := by show _ = _; rw [steps_prefix, ← Hx.out, HP.out]
      have A5 : Hid (Ext w w5) := Below.grown (Hw.out.trans (Ext.alloc wr _)) hgrow (by have := (Hw.out.trans (Ext.alloc wr (.cells #[.int .i64 x] 3))).size; exact this) (fun q hq => ((own0.alloc (.cells #[.int .i64 x] 3)).lt q hq).1)
      clear hown' hgrow own0
      go_wp2_with fail
      go_roundw
      case rel => exact ⟨k + 1, x + 1, P ++ [x], rfl, by show _ = _; rw [Hx.out]; simp [Int.mul_add, Int.add_assoc], by omega, by omega, HK.out, AP, A1, A5⟩
      case measure => simp [RowKit.intOf]; omega
    · have HK : Hid (k = cnt) := by
        show _ = _
        have h1 : ¬ k < cnt := by rw [HST.out k, ← Hx.out]; exact hle
        have h2 := Hk.out
        omega
      go_wp2_with fail
      go_ret
      exact num_post Hv.out (by rw [HRL.out, HP.out, HK.out]) Hw.out

set_option maxHeartbeats 6400000 in
set_option maxRecDepth 1000000 in
theorem numbers_4 (f : Nat) (hf : f < 7) (a b s n : Int) (it : Value) (hh : leastF f ≤ a ∧ a ≤ mostF f ∧ 1 ≤ s ∧ s ≤ mostF f) (w : World) :
    Calls Tryz.prog 42 #[.int .i64 f, .agg #[.int .i64 4, .int .i64 a, .int .i64 b, .int .i64 s, .int .i64 n, it]] w (NumPost w (numsA f 4 a b s)) := by
  obtain ⟨i0, hi0, hz0, hz1, hz2⟩ := info_parts Tryz.info3
  obtain ⟨R, hR⟩ : ∃ R, R = numsA f 4 a b s := ⟨_, rfl⟩
  rw [← hR]
  obtain ⟨lo, hlo⟩ : ∃ lo, lo = leastF f := ⟨_, rfl⟩
  obtain ⟨hi, hhi⟩ : ∃ hi, hi = mostF f := ⟨_, rfl⟩
  have hlo0 : 0 ≤ lo ∧ lo ≤ 1970 := by rw [hlo]; exact least_bd f
  have hhi0 : 7 ≤ hi ∧ hi ≤ 2199 := by rw [hhi]; exact most_bd f
  have hlh : lo ≤ hi := by rw [hlo, hhi]; exact least_le_most f
  have HLs : Hid (∀ W, NumS w 4 a b s W → Calls Tryz.prog 58 #[.int .i64 f] W fun e W' => e = .returned (.int .i64 lo) ∧ NumS w 4 a b s W') := fun W hW => by
    rw [hlo]
    refine (least_any f hf W).mono ?_
    rintro e w1 ⟨rfl, x⟩
    exact ⟨rfl, hW.step x⟩
  have HMs : Hid (∀ W, NumS w 4 a b s W → Calls Tryz.prog 57 #[.int .i64 f] W fun e W' => e = .returned (.int .i64 hi) ∧ NumS w 4 a b s W') := fun W hW => by
    rw [hhi]
    refine (most_any f hf W).mono ?_
    rintro e w1 ⟨rfl, x⟩
    exact ⟨rfl, hW.step x⟩
  simp only [← hlo, ← hhi] at hh
  have HR : Hid (R = stepsL a hi s) := by show _ = _; rw [hR]; simp [numsA, hlo, hhi]
  clear hR hlo hhi
  have HB : Hid (NumS w 4 a b s ((w.alloc (.cells #[.int .i64 4, .int .i64 a, .int .i64 b, .int .i64 s, .int .i64 n, it] 24)).alloc (.cells #[] 3))) := by
    have hb : Boxed w 4 a b s (w.alloc (.cells #[.int .i64 4, .int .i64 a, .int .i64 b, .int .i64 s, .int .i64 n, it] 24)) := ⟨Ext.alloc _ _, by simp, by simp, by simp, by simp⟩
    refine ⟨hb.step (Ext.alloc _ _), ?_⟩
    have h := World.ownsRow_lit (w.alloc (.cells #[.int .i64 4, .int .i64 a, .int .i64 b, .int .i64 s, .int .i64 n, it] 24)) (base := w.heap.size) (e := 3) (size := 1) #[] 0 (by simp) (by decide) rfl
    have e : (w.alloc (.cells #[.int .i64 4, .int .i64 a, .int .i64 b, .int .i64 s, .int .i64 n, it] 24)).heap.size = w.heap.size + 1 := by simp
    rw [e] at h
    exact h
  go_enter Tryz.func42, Tryz.ntmps42
  go_wp2_with fail
  obtain ⟨T, g, hT, h0, hS, hI⟩ := cls_intro (NumS w _ a b s) _ (NumS.step HB.out (Ext.drew _))
  have c0 := fun t => (hS t).bx.2.1
  have c1 := fun t => (hS t).bx.2.2.1
  have c2 := fun t => (hS t).bx.2.2.2.1
  have c3 := fun t => (hS t).bx.2.2.2.2
  have HS := Lib.hid hS
  have HI := Lib.hid hI
  clear hS hI
  refine wp_region_cls g (by kernel_rfl) (by kernel_rfl) h0 ?_
  clear h0
  repeat (go_big_quiet_step (first
    | (go_at_call 58; exact calls_cls HI.out (HLs.out _ (HS.out _)))
    | (go_at_call 57; exact calls_cls HI.out (HMs.out _ (HS.out _)))))
  refine wpQuiet_nil ?_
  rintro _ ⟨t, rfl⟩
  clear c0 c1 c2 c3
  have HB := Lib.hid (HS.out t)
  clear HS HI
  generalize g t = w2 at HB
  clear hT t g T
  have c0 := HB.out.bx.2.1
  have c1 := HB.out.bx.2.2.1
  have c2 := HB.out.bx.2.2.2.1
  have c3 := HB.out.bx.2.2.2.2
  go_wp2_with fail
  clear c0 c1 c2 c3
  obtain ⟨T, g, hT, h0, hS, hI⟩ := cls_intro (NumS w _ a b s) _ (NumS.step HB.out (Ext.drew _))
  have c0 := fun t => (hS t).bx.2.1
  have c1 := fun t => (hS t).bx.2.2.1
  have c2 := fun t => (hS t).bx.2.2.2.1
  have c3 := fun t => (hS t).bx.2.2.2.2
  have HS := Lib.hid hS
  have HI := Lib.hid hI
  clear hS hI
  refine wp_region_cls g (by kernel_rfl) (by kernel_rfl) h0 ?_
  clear h0
  repeat (go_big_quiet_step (first
    | (go_at_call 58; exact calls_cls HI.out (HLs.out _ (HS.out _)))
    | (go_at_call 57; exact calls_cls HI.out (HMs.out _ (HS.out _)))))
  refine wpQuiet_nil ?_
  rintro _ ⟨t, rfl⟩
  clear c0 c1 c2 c3
  have HB := Lib.hid (HS.out t)
  clear HS HI
  generalize g t = w2 at HB
  clear hT t g T
  have c0 := HB.out.bx.2.1
  have c1 := HB.out.bx.2.2.1
  have c2 := HB.out.bx.2.2.2.1
  have c3 := HB.out.bx.2.2.2.2
  go_wp2_with fail
  have HX2 := Lib.hid HB.out.bx.1
  have HO2 := Lib.hid HB.out.out
  clear HB c0 c1 c2 c3
  obtain ⟨cnt, hcnt⟩ : ∃ cnt, cnt = ((hi - a) / s).toNat + 1 := ⟨_, rfl⟩
  have HST : Hid (∀ k : Nat, k < cnt ↔ a + s * k ≤ hi) := by intro k; rw [hcnt]; exact step_lt a hi s (by omega) (by omega) k
  have HRL : Hid (R = (List.range cnt).map fun i : Nat => a + s * (i : Int)) := by show _ = _; rw [hcnt, HR.out]; rfl
  clear hcnt
  go_loopw [5, 10] (fun v i wr => ∃ (k : Nat) (x : Int) (P : List Int), i = .int .i64 x ∧ Hid (x = a + s * k) ∧ a ≤ x ∧ x ≤ hi + s ∧ Hid (k ≤ cnt) ∧ Hid (P = (List.range k).map fun i : Nat => a + s * (i : Int)) ∧ Hid (Ints wr w.heap.size v P) ∧ Hid (Ext w wr))
    (fun _ i _ => (hi + s + 1 - RowKit.intOf i).toNat)
  case atStart => exact ⟨0, a, [], rfl, by show _ = _; simp, by omega, by omega, Nat.zero_le _, rfl, HO2.out, HX2.out⟩
  case round =>
    obtain ⟨k, x, P, rfl, Hx, hx1, hx2, Hk, HP, Hv, Hw⟩ := hrel
    by_cases hle : x ≤ hi
    · have hv' := Hv.out
      have HK : Hid (k < cnt) := by show _ < _; rw [HST.out k, ← Hx.out]; exact hle
      obtain ⟨av, capv, hav⟩ := own_any hv'
      rw [hav] at hv'
      subst hav
      obtain ⟨lv, hlv⟩ : ∃ lv, lv = P.length := ⟨_, rfl⟩
      have hlk : lv = k := by rw [hlv, HP.out]; simp
      have hkb : k ≤ 100000 := by
        have h1 := Hx.out
        have h2 : (k : Int) ≤ s * (k : Int) := by
          have := Int.mul_le_mul_of_nonneg_right (show (1 : Int) ≤ s by omega) (Int.natCast_nonneg k)
          omega
        omega
      have HV := Lib.hid hv'
      have own0 : wr.ownsRow w.heap.size 3 1 (.slice av lv capv) lv (ints P) := by rw [hlv]; exact hv'
      have HOW := Lib.hid own0
      rw [← hlv]
      have HLV := Lib.hid hlk
      have hlvb : lv ≤ 100000 := by omega
      have hxw := Below.size Hw.out
      clear hv' hlv hlk Hv HV
      go_wp2_with (first
        | (at_builtin; refine wpList_append_own _ rfl _ _ 38 rfl w.heap.size 3 i0 (.int .i64 0) 1 8 Tryz.underlying38 hi0 hz0 hz1 hz2 rfl (by decide) _ _ _ rfl (own0.alloc _) ⟨wr.heap.size, 0, none⟩ 1 1 [.int .i64 x] rfl rfl ?c1 ?c2 ?c3 ?c4 ?c5 ?_)
        | go_in)
      case c1 => exact cell_one_new _ _ _
      case c2 => intro u hu; simp at hu; subst hu; rfl
      case c3 => unfold maxLen; omega
      case c4 => omega
      case c5 => simp; omega
      intro v' w5 hown' hgrow _
      have A1 : Hid (Ints w5 w.heap.size v' (P ++ [x])) := by
        show World.ownsRow _ _ _ _ _ _ _
        have e : (P ++ [x]).length = lv + 1 := by rw [HLV.out, HP.out]; simp
        rw [ints_append, e]
        exact hown'
      have AP : Hid (P ++ [x] = (List.range (k + 1)).map fun i : Nat => a + s * (i : Int)) := by show _ = _; rw [steps_prefix, ← Hx.out, HP.out]
      have A5 : Hid (Ext w w5) := Below.grown (Hw.out.trans (Ext.alloc wr _)) hgrow (by have := (Hw.out.trans (Ext.alloc wr (.cells #[.int .i64 x] 3))).size; exact this) (fun q hq => ((own0.alloc (.cells #[.int .i64 x] 3)).lt q hq).1)
      clear hown' hgrow own0
      go_wp2_with fail
      go_roundw
      case rel => exact ⟨k + 1, x + s, P ++ [x], rfl, by show _ = _; rw [Hx.out]; simp [Int.mul_add, Int.add_assoc], by omega, by omega, HK.out, AP, A1, A5⟩
      case measure => simp [RowKit.intOf]; omega
    · have HK : Hid (k = cnt) := by
        show _ = _
        have h1 : ¬ k < cnt := by rw [HST.out k, ← Hx.out]; exact hle
        have h2 := Hk.out
        omega
      go_wp2_with fail
      go_ret
      exact num_post Hv.out (by rw [HRL.out, HP.out, HK.out]) Hw.out

set_option maxHeartbeats 6400000 in
set_option maxRecDepth 1000000 in
theorem numbers_5 (f : Nat) (hf : f < 7) (a b s n : Int) (it : Value) (hh : 1 ≤ s ∧ s ≤ mostF f) (w : World) :
    Calls Tryz.prog 42 #[.int .i64 f, .agg #[.int .i64 5, .int .i64 a, .int .i64 b, .int .i64 s, .int .i64 n, it]] w (NumPost w (numsA f 5 a b s)) := by
  obtain ⟨i0, hi0, hz0, hz1, hz2⟩ := info_parts Tryz.info3
  obtain ⟨R, hR⟩ : ∃ R, R = numsA f 5 a b s := ⟨_, rfl⟩
  rw [← hR]
  obtain ⟨lo, hlo⟩ : ∃ lo, lo = leastF f := ⟨_, rfl⟩
  obtain ⟨hi, hhi⟩ : ∃ hi, hi = mostF f := ⟨_, rfl⟩
  have hlo0 : 0 ≤ lo ∧ lo ≤ 1970 := by rw [hlo]; exact least_bd f
  have hhi0 : 7 ≤ hi ∧ hi ≤ 2199 := by rw [hhi]; exact most_bd f
  have hlh : lo ≤ hi := by rw [hlo, hhi]; exact least_le_most f
  have HLs : Hid (∀ W, NumS w 5 a b s W → Calls Tryz.prog 58 #[.int .i64 f] W fun e W' => e = .returned (.int .i64 lo) ∧ NumS w 5 a b s W') := fun W hW => by
    rw [hlo]
    refine (least_any f hf W).mono ?_
    rintro e w1 ⟨rfl, x⟩
    exact ⟨rfl, hW.step x⟩
  have HMs : Hid (∀ W, NumS w 5 a b s W → Calls Tryz.prog 57 #[.int .i64 f] W fun e W' => e = .returned (.int .i64 hi) ∧ NumS w 5 a b s W') := fun W hW => by
    rw [hhi]
    refine (most_any f hf W).mono ?_
    rintro e w1 ⟨rfl, x⟩
    exact ⟨rfl, hW.step x⟩
  simp only [← hlo, ← hhi] at hh
  have HR : Hid (R = stepsL lo hi s) := by show _ = _; rw [hR]; simp [numsA, hlo, hhi]
  clear hR hlo hhi
  have HB : Hid (NumS w 5 a b s ((w.alloc (.cells #[.int .i64 5, .int .i64 a, .int .i64 b, .int .i64 s, .int .i64 n, it] 24)).alloc (.cells #[] 3))) := by
    have hb : Boxed w 5 a b s (w.alloc (.cells #[.int .i64 5, .int .i64 a, .int .i64 b, .int .i64 s, .int .i64 n, it] 24)) := ⟨Ext.alloc _ _, by simp, by simp, by simp, by simp⟩
    refine ⟨hb.step (Ext.alloc _ _), ?_⟩
    have h := World.ownsRow_lit (w.alloc (.cells #[.int .i64 5, .int .i64 a, .int .i64 b, .int .i64 s, .int .i64 n, it] 24)) (base := w.heap.size) (e := 3) (size := 1) #[] 0 (by simp) (by decide) rfl
    have e : (w.alloc (.cells #[.int .i64 5, .int .i64 a, .int .i64 b, .int .i64 s, .int .i64 n, it] 24)).heap.size = w.heap.size + 1 := by simp
    rw [e] at h
    exact h
  go_enter Tryz.func42, Tryz.ntmps42
  go_wp2_with fail
  obtain ⟨T, g, hT, h0, hS, hI⟩ := cls_intro (NumS w _ a b s) _ (NumS.step HB.out (Ext.drew _))
  have c0 := fun t => (hS t).bx.2.1
  have c1 := fun t => (hS t).bx.2.2.1
  have c2 := fun t => (hS t).bx.2.2.2.1
  have c3 := fun t => (hS t).bx.2.2.2.2
  have HS := Lib.hid hS
  have HI := Lib.hid hI
  clear hS hI
  refine wp_region_cls g (by kernel_rfl) (by kernel_rfl) h0 ?_
  clear h0
  repeat (go_big_quiet_step (first
    | (go_at_call 58; exact calls_cls HI.out (HLs.out _ (HS.out _)))
    | (go_at_call 57; exact calls_cls HI.out (HMs.out _ (HS.out _)))))
  refine wpQuiet_nil ?_
  rintro _ ⟨t, rfl⟩
  clear c0 c1 c2 c3
  have HB := Lib.hid (HS.out t)
  clear HS HI
  generalize g t = w2 at HB
  clear hT t g T
  have c0 := HB.out.bx.2.1
  have c1 := HB.out.bx.2.2.1
  have c2 := HB.out.bx.2.2.2.1
  have c3 := HB.out.bx.2.2.2.2
  go_wp2_with fail
  clear c0 c1 c2 c3
  obtain ⟨T, g, hT, h0, hS, hI⟩ := cls_intro (NumS w _ a b s) _ (NumS.step HB.out (Ext.drew _))
  have c0 := fun t => (hS t).bx.2.1
  have c1 := fun t => (hS t).bx.2.2.1
  have c2 := fun t => (hS t).bx.2.2.2.1
  have c3 := fun t => (hS t).bx.2.2.2.2
  have HS := Lib.hid hS
  have HI := Lib.hid hI
  clear hS hI
  refine wp_region_cls g (by kernel_rfl) (by kernel_rfl) h0 ?_
  clear h0
  repeat (go_big_quiet_step (first
    | (go_at_call 58; exact calls_cls HI.out (HLs.out _ (HS.out _)))
    | (go_at_call 57; exact calls_cls HI.out (HMs.out _ (HS.out _)))))
  refine wpQuiet_nil ?_
  rintro _ ⟨t, rfl⟩
  clear c0 c1 c2 c3
  have HB := Lib.hid (HS.out t)
  clear HS HI
  generalize g t = w2 at HB
  clear hT t g T
  have c0 := HB.out.bx.2.1
  have c1 := HB.out.bx.2.2.1
  have c2 := HB.out.bx.2.2.2.1
  have c3 := HB.out.bx.2.2.2.2
  go_wp2_with fail
  have HX2 := Lib.hid HB.out.bx.1
  have HO2 := Lib.hid HB.out.out
  clear HB c0 c1 c2 c3
  obtain ⟨cnt, hcnt⟩ : ∃ cnt, cnt = ((hi - lo) / s).toNat + 1 := ⟨_, rfl⟩
  have HST : Hid (∀ k : Nat, k < cnt ↔ lo + s * k ≤ hi) := by intro k; rw [hcnt]; exact step_lt lo hi s (by omega) (by omega) k
  have HRL : Hid (R = (List.range cnt).map fun i : Nat => lo + s * (i : Int)) := by show _ = _; rw [hcnt, HR.out]; rfl
  clear hcnt
  go_loopw [5, 10] (fun v i wr => ∃ (k : Nat) (x : Int) (P : List Int), i = .int .i64 x ∧ Hid (x = lo + s * k) ∧ lo ≤ x ∧ x ≤ hi + s ∧ Hid (k ≤ cnt) ∧ Hid (P = (List.range k).map fun i : Nat => lo + s * (i : Int)) ∧ Hid (Ints wr w.heap.size v P) ∧ Hid (Ext w wr))
    (fun _ i _ => (hi + s + 1 - RowKit.intOf i).toNat)
  case atStart => exact ⟨0, lo, [], rfl, by show _ = _; simp, by omega, by omega, Nat.zero_le _, rfl, HO2.out, HX2.out⟩
  case round =>
    obtain ⟨k, x, P, rfl, Hx, hx1, hx2, Hk, HP, Hv, Hw⟩ := hrel
    by_cases hle : x ≤ hi
    · have hv' := Hv.out
      have HK : Hid (k < cnt) := by show _ < _; rw [HST.out k, ← Hx.out]; exact hle
      obtain ⟨av, capv, hav⟩ := own_any hv'
      rw [hav] at hv'
      subst hav
      obtain ⟨lv, hlv⟩ : ∃ lv, lv = P.length := ⟨_, rfl⟩
      have hlk : lv = k := by rw [hlv, HP.out]; simp
      have hkb : k ≤ 100000 := by
        have h1 := Hx.out
        have h2 : (k : Int) ≤ s * (k : Int) := by
          have := Int.mul_le_mul_of_nonneg_right (show (1 : Int) ≤ s by omega) (Int.natCast_nonneg k)
          omega
        omega
      have HV := Lib.hid hv'
      have own0 : wr.ownsRow w.heap.size 3 1 (.slice av lv capv) lv (ints P) := by rw [hlv]; exact hv'
      have HOW := Lib.hid own0
      rw [← hlv]
      have HLV := Lib.hid hlk
      have hlvb : lv ≤ 100000 := by omega
      have hxw := Below.size Hw.out
      clear hv' hlv hlk Hv HV
      go_wp2_with (first
        | (at_builtin; refine wpList_append_own _ rfl _ _ 38 rfl w.heap.size 3 i0 (.int .i64 0) 1 8 Tryz.underlying38 hi0 hz0 hz1 hz2 rfl (by decide) _ _ _ rfl (own0.alloc _) ⟨wr.heap.size, 0, none⟩ 1 1 [.int .i64 x] rfl rfl ?c1 ?c2 ?c3 ?c4 ?c5 ?_)
        | go_in)
      case c1 => exact cell_one_new _ _ _
      case c2 => intro u hu; simp at hu; subst hu; rfl
      case c3 => unfold maxLen; omega
      case c4 => omega
      case c5 => simp; omega
      intro v' w5 hown' hgrow _
      have A1 : Hid (Ints w5 w.heap.size v' (P ++ [x])) := by
        show World.ownsRow _ _ _ _ _ _ _
        have e : (P ++ [x]).length = lv + 1 := by rw [HLV.out, HP.out]; simp
        rw [ints_append, e]
        exact hown'
      have AP : Hid (P ++ [x] = (List.range (k + 1)).map fun i : Nat => lo + s * (i : Int)) := by show _ = _; rw [steps_prefix, ← Hx.out, HP.out]
      have A5 : Hid (Ext w w5) := Below.grown (Hw.out.trans (Ext.alloc wr _)) hgrow (by have := (Hw.out.trans (Ext.alloc wr (.cells #[.int .i64 x] 3))).size; exact this) (fun q hq => ((own0.alloc (.cells #[.int .i64 x] 3)).lt q hq).1)
      clear hown' hgrow own0
      go_wp2_with fail
      go_roundw
      case rel => exact ⟨k + 1, x + s, P ++ [x], rfl, by show _ = _; rw [Hx.out]; simp [Int.mul_add, Int.add_assoc], by omega, by omega, HK.out, AP, A1, A5⟩
      case measure => simp [RowKit.intOf]; omega
    · have HK : Hid (k = cnt) := by
        show _ = _
        have h1 : ¬ k < cnt := by rw [HST.out k, ← Hx.out]; exact hle
        have h2 := Hk.out
        omega
      go_wp2_with fail
      go_ret
      exact num_post Hv.out (by rw [HRL.out, HP.out, HK.out]) Hw.out

set_option maxHeartbeats 6400000 in
set_option maxRecDepth 1000000 in
theorem numbers_6 (f : Nat) (hf : f < 7) (a b s n : Int) (it : Value) (hh : leastF f ≤ a ∧ a ≤ b ∧ b ≤ mostF f ∧ 1 ≤ s ∧ s ≤ mostF f) (w : World) :
    Calls Tryz.prog 42 #[.int .i64 f, .agg #[.int .i64 6, .int .i64 a, .int .i64 b, .int .i64 s, .int .i64 n, it]] w (NumPost w (numsA f 6 a b s)) := by
  obtain ⟨i0, hi0, hz0, hz1, hz2⟩ := info_parts Tryz.info3
  obtain ⟨R, hR⟩ : ∃ R, R = numsA f 6 a b s := ⟨_, rfl⟩
  rw [← hR]
  obtain ⟨lo, hlo⟩ : ∃ lo, lo = leastF f := ⟨_, rfl⟩
  obtain ⟨hi, hhi⟩ : ∃ hi, hi = mostF f := ⟨_, rfl⟩
  have hlo0 : 0 ≤ lo ∧ lo ≤ 1970 := by rw [hlo]; exact least_bd f
  have hhi0 : 7 ≤ hi ∧ hi ≤ 2199 := by rw [hhi]; exact most_bd f
  have hlh : lo ≤ hi := by rw [hlo, hhi]; exact least_le_most f
  have HLs : Hid (∀ W, NumS w 6 a b s W → Calls Tryz.prog 58 #[.int .i64 f] W fun e W' => e = .returned (.int .i64 lo) ∧ NumS w 6 a b s W') := fun W hW => by
    rw [hlo]
    refine (least_any f hf W).mono ?_
    rintro e w1 ⟨rfl, x⟩
    exact ⟨rfl, hW.step x⟩
  have HMs : Hid (∀ W, NumS w 6 a b s W → Calls Tryz.prog 57 #[.int .i64 f] W fun e W' => e = .returned (.int .i64 hi) ∧ NumS w 6 a b s W') := fun W hW => by
    rw [hhi]
    refine (most_any f hf W).mono ?_
    rintro e w1 ⟨rfl, x⟩
    exact ⟨rfl, hW.step x⟩
  simp only [← hlo, ← hhi] at hh
  have HR : Hid (R = stepsL a b s) := by show _ = _; rw [hR]; simp [numsA, hlo, hhi]
  clear hR hlo hhi
  have HB : Hid (NumS w 6 a b s ((w.alloc (.cells #[.int .i64 6, .int .i64 a, .int .i64 b, .int .i64 s, .int .i64 n, it] 24)).alloc (.cells #[] 3))) := by
    have hb : Boxed w 6 a b s (w.alloc (.cells #[.int .i64 6, .int .i64 a, .int .i64 b, .int .i64 s, .int .i64 n, it] 24)) := ⟨Ext.alloc _ _, by simp, by simp, by simp, by simp⟩
    refine ⟨hb.step (Ext.alloc _ _), ?_⟩
    have h := World.ownsRow_lit (w.alloc (.cells #[.int .i64 6, .int .i64 a, .int .i64 b, .int .i64 s, .int .i64 n, it] 24)) (base := w.heap.size) (e := 3) (size := 1) #[] 0 (by simp) (by decide) rfl
    have e : (w.alloc (.cells #[.int .i64 6, .int .i64 a, .int .i64 b, .int .i64 s, .int .i64 n, it] 24)).heap.size = w.heap.size + 1 := by simp
    rw [e] at h
    exact h
  go_enter Tryz.func42, Tryz.ntmps42
  go_wp2_with fail
  obtain ⟨T, g, hT, h0, hS, hI⟩ := cls_intro (NumS w _ a b s) _ (NumS.step HB.out (Ext.drew _))
  have c0 := fun t => (hS t).bx.2.1
  have c1 := fun t => (hS t).bx.2.2.1
  have c2 := fun t => (hS t).bx.2.2.2.1
  have c3 := fun t => (hS t).bx.2.2.2.2
  have HS := Lib.hid hS
  have HI := Lib.hid hI
  clear hS hI
  refine wp_region_cls g (by kernel_rfl) (by kernel_rfl) h0 ?_
  clear h0
  repeat (go_big_quiet_step (first
    | (go_at_call 58; exact calls_cls HI.out (HLs.out _ (HS.out _)))
    | (go_at_call 57; exact calls_cls HI.out (HMs.out _ (HS.out _)))))
  refine wpQuiet_nil ?_
  rintro _ ⟨t, rfl⟩
  clear c0 c1 c2 c3
  have HB := Lib.hid (HS.out t)
  clear HS HI
  generalize g t = w2 at HB
  clear hT t g T
  have c0 := HB.out.bx.2.1
  have c1 := HB.out.bx.2.2.1
  have c2 := HB.out.bx.2.2.2.1
  have c3 := HB.out.bx.2.2.2.2
  go_wp2_with fail
  clear c0 c1 c2 c3
  obtain ⟨T, g, hT, h0, hS, hI⟩ := cls_intro (NumS w _ a b s) _ (NumS.step HB.out (Ext.drew _))
  have c0 := fun t => (hS t).bx.2.1
  have c1 := fun t => (hS t).bx.2.2.1
  have c2 := fun t => (hS t).bx.2.2.2.1
  have c3 := fun t => (hS t).bx.2.2.2.2
  have HS := Lib.hid hS
  have HI := Lib.hid hI
  clear hS hI
  refine wp_region_cls g (by kernel_rfl) (by kernel_rfl) h0 ?_
  clear h0
  repeat (go_big_quiet_step (first
    | (go_at_call 58; exact calls_cls HI.out (HLs.out _ (HS.out _)))
    | (go_at_call 57; exact calls_cls HI.out (HMs.out _ (HS.out _)))))
  refine wpQuiet_nil ?_
  rintro _ ⟨t, rfl⟩
  clear c0 c1 c2 c3
  have HB := Lib.hid (HS.out t)
  clear HS HI
  generalize g t = w2 at HB
  clear hT t g T
  have c0 := HB.out.bx.2.1
  have c1 := HB.out.bx.2.2.1
  have c2 := HB.out.bx.2.2.2.1
  have c3 := HB.out.bx.2.2.2.2
  go_wp2_with fail
  have HX2 := Lib.hid HB.out.bx.1
  have HO2 := Lib.hid HB.out.out
  clear HB c0 c1 c2 c3
  obtain ⟨cnt, hcnt⟩ : ∃ cnt, cnt = ((b - a) / s).toNat + 1 := ⟨_, rfl⟩
  have HST : Hid (∀ k : Nat, k < cnt ↔ a + s * k ≤ b) := by intro k; rw [hcnt]; exact step_lt a b s (by omega) (by omega) k
  have HRL : Hid (R = (List.range cnt).map fun i : Nat => a + s * (i : Int)) := by show _ = _; rw [hcnt, HR.out]; rfl
  clear hcnt
  go_loopw [5, 10] (fun v i wr => ∃ (k : Nat) (x : Int) (P : List Int), i = .int .i64 x ∧ Hid (x = a + s * k) ∧ a ≤ x ∧ x ≤ b + s ∧ Hid (k ≤ cnt) ∧ Hid (P = (List.range k).map fun i : Nat => a + s * (i : Int)) ∧ Hid (Ints wr w.heap.size v P) ∧ Hid (Ext w wr))
    (fun _ i _ => (b + s + 1 - RowKit.intOf i).toNat)
  case atStart => exact ⟨0, a, [], rfl, by show _ = _; simp, by omega, by omega, Nat.zero_le _, rfl, HO2.out, HX2.out⟩
  case round =>
    obtain ⟨k, x, P, rfl, Hx, hx1, hx2, Hk, HP, Hv, Hw⟩ := hrel
    by_cases hle : x ≤ b
    · have hv' := Hv.out
      have HK : Hid (k < cnt) := by show _ < _; rw [HST.out k, ← Hx.out]; exact hle
      obtain ⟨av, capv, hav⟩ := own_any hv'
      rw [hav] at hv'
      subst hav
      obtain ⟨lv, hlv⟩ : ∃ lv, lv = P.length := ⟨_, rfl⟩
      have hlk : lv = k := by rw [hlv, HP.out]; simp
      have hkb : k ≤ 100000 := by
        have h1 := Hx.out
        have h2 : (k : Int) ≤ s * (k : Int) := by
          have := Int.mul_le_mul_of_nonneg_right (show (1 : Int) ≤ s by omega) (Int.natCast_nonneg k)
          omega
        omega
      have HV := Lib.hid hv'
      have own0 : wr.ownsRow w.heap.size 3 1 (.slice av lv capv) lv (ints P) := by rw [hlv]; exact hv'
      have HOW := Lib.hid own0
      rw [← hlv]
      have HLV := Lib.hid hlk
      have hlvb : lv ≤ 100000 := by omega
      have hxw := Below.size Hw.out
      clear hv' hlv hlk Hv HV
      go_wp2_with (first
        | (at_builtin; refine wpList_append_own _ rfl _ _ 38 rfl w.heap.size 3 i0 (.int .i64 0) 1 8 Tryz.underlying38 hi0 hz0 hz1 hz2 rfl (by decide) _ _ _ rfl (own0.alloc _) ⟨wr.heap.size, 0, none⟩ 1 1 [.int .i64 x] rfl rfl ?c1 ?c2 ?c3 ?c4 ?c5 ?_)
        | go_in)
      case c1 => exact cell_one_new _ _ _
      case c2 => intro u hu; simp at hu; subst hu; rfl
      case c3 => unfold maxLen; omega
      case c4 => omega
      case c5 => simp; omega
      intro v' w5 hown' hgrow _
      have A1 : Hid (Ints w5 w.heap.size v' (P ++ [x])) := by
        show World.ownsRow _ _ _ _ _ _ _
        have e : (P ++ [x]).length = lv + 1 := by rw [HLV.out, HP.out]; simp
        rw [ints_append, e]
        exact hown'
      have AP : Hid (P ++ [x] = (List.range (k + 1)).map fun i : Nat => a + s * (i : Int)) := by show _ = _; rw [steps_prefix, ← Hx.out, HP.out]
      have A5 : Hid (Ext w w5) := Below.grown (Hw.out.trans (Ext.alloc wr _)) hgrow (by have := (Hw.out.trans (Ext.alloc wr (.cells #[.int .i64 x] 3))).size; exact this) (fun q hq => ((own0.alloc (.cells #[.int .i64 x] 3)).lt q hq).1)
      clear hown' hgrow own0
      go_wp2_with fail
      go_roundw
      case rel => exact ⟨k + 1, x + s, P ++ [x], rfl, by show _ = _; rw [Hx.out]; simp [Int.mul_add, Int.add_assoc], by omega, by omega, HK.out, AP, A1, A5⟩
      case measure => simp [RowKit.intOf]; omega
    · have HK : Hid (k = cnt) := by
        show _ = _
        have h1 : ¬ k < cnt := by rw [HST.out k, ← Hx.out]; exact hle
        have h2 := Hk.out
        omega
      go_wp2_with fail
      go_ret
      exact num_post Hv.out (by rw [HRL.out, HP.out, HK.out]) Hw.out
end Go.Proofs.YtmaffdhcmdhjfaaGreatDoor
