/- A trigger with an interval: its functions' contracts, and the law FnSimple's call returns true for every interval and instant; its conditions: the table of powers of ten reads as laid. -/
import Derived.Test.YtmaffdhcmdhjfaaDoorLen
namespace Go.Proofs.YtmaffdhcmdhjfaaDoor
open Go.RowKit Go.Sort Go.Lib

theorem lenText_zero : lenText 0 = [48, 115] := rfl

set_option maxRecDepth 100000 in
theorem len_zero (w : World) (hE : Env w) : Calls Tryd.prog 6 #[.int .i64 0] w fun e w' => e = .returned (.string ⟨(lenText 0).toArray⟩) ∧ Ext w w' ∧ Env w' := by
  go_enter Tryd.func6, Tryd.ntmps6
  go_wp2_with fail
  go_ret
  exact ⟨rfl, Ext.refl _, hE⟩
set_option maxRecDepth 100000 in
theorem str_zero (w : World) (hE : Env w) : Calls Tryd.prog 19 #[.int .i64 0] w fun e w' => e = .returned (.string ⟨(lenText 0).toArray⟩) ∧ Ext w w' ∧ Env w' := by
  go_enter Tryd.func19, Tryd.ntmps19
  go_wp2_with fail
  go_ret
  exact ⟨rfl, Ext.refl _, hE⟩

theorem len_any (d : Int) (h0 : -1000000000000000000 ≤ d) (h1 : d ≤ 1000000000000000000) (w : World) (hE : Env w) :
    Calls Tryd.prog 6 #[.int .i64 d] w fun e w' => e = .returned (.string ⟨(lenText d).toArray⟩) ∧ Ext w w' ∧ Env w' := by
  rcases (show d = 0 ∨ 0 < d ∨ d < 0 by omega) with rfl | h | h
  · exact len_zero w hE
  · obtain ⟨n, rfl⟩ : ∃ n : Nat, d = n := ⟨d.toNat, by omega⟩
    rcases (show n < 1000 ∨ (1000 ≤ n ∧ n < 1000000) ∨ (1000000 ≤ n ∧ n < 1000000000) ∨ (1000000000 ≤ n ∧ n < 60000000000) ∨ (60000000000 ≤ n ∧ n < 3600000000000) ∨ 3600000000000 ≤ n by omega) with c | ⟨c0, c⟩ | ⟨c0, c⟩ | ⟨c0, c⟩ | ⟨c0, c⟩ | c0
    · exact lenPos_ns n (by omega) (by omega) c w hE
    · exact lenPos_us n (by omega) (by omega) c0 c w hE
    · exact lenPos_ms n (by omega) (by omega) c0 c w hE
    · exact lenPos_s n (by omega) (by omega) c0 c w hE
    · exact lenPos_m n (by omega) (by omega) c0 c w hE
    · exact lenPos_h n (by omega) (by omega) c0 w hE
  · obtain ⟨n, rfl⟩ : ∃ n : Nat, d = -(n : Int) := ⟨d.natAbs, by omega⟩
    rcases (show n < 1000 ∨ (1000 ≤ n ∧ n < 1000000) ∨ (1000000 ≤ n ∧ n < 1000000000) ∨ (1000000000 ≤ n ∧ n < 60000000000) ∨ (60000000000 ≤ n ∧ n < 3600000000000) ∨ 3600000000000 ≤ n by omega) with c | ⟨c0, c⟩ | ⟨c0, c⟩ | ⟨c0, c⟩ | ⟨c0, c⟩ | c0
    · exact lenNeg_ns n (by omega) (by omega) c w hE
    · exact lenNeg_us n (by omega) (by omega) c0 c w hE
    · exact lenNeg_ms n (by omega) (by omega) c0 c w hE
    · exact lenNeg_s n (by omega) (by omega) c0 c w hE
    · exact lenNeg_m n (by omega) (by omega) c0 c w hE
    · exact lenNeg_h n (by omega) (by omega) c0 w hE

theorem str_any (d : Int) (h0 : -1000000000000000000 ≤ d) (h1 : d ≤ 1000000000000000000) (w : World) (hE : Env w) :
    Calls Tryd.prog 19 #[.int .i64 d] w fun e w' => e = .returned (.string ⟨(lenText d).toArray⟩) ∧ Ext w w' ∧ Env w' := by
  rcases (show d = 0 ∨ 0 < d ∨ d < 0 by omega) with rfl | h | h
  · exact str_zero w hE
  · obtain ⟨n, rfl⟩ : ∃ n : Nat, d = n := ⟨d.toNat, by omega⟩
    rcases (show n < 1000 ∨ (1000 ≤ n ∧ n < 1000000) ∨ (1000000 ≤ n ∧ n < 1000000000) ∨ (1000000000 ≤ n ∧ n < 60000000000) ∨ (60000000000 ≤ n ∧ n < 3600000000000) ∨ 3600000000000 ≤ n by omega) with c | ⟨c0, c⟩ | ⟨c0, c⟩ | ⟨c0, c⟩ | ⟨c0, c⟩ | c0
    · exact strPos_ns n (by omega) (by omega) c w hE
    · exact strPos_us n (by omega) (by omega) c0 c w hE
    · exact strPos_ms n (by omega) (by omega) c0 c w hE
    · exact strPos_s n (by omega) (by omega) c0 c w hE
    · exact strPos_m n (by omega) (by omega) c0 c w hE
    · exact strPos_h n (by omega) (by omega) c0 w hE
  · obtain ⟨n, rfl⟩ : ∃ n : Nat, d = -(n : Int) := ⟨d.natAbs, by omega⟩
    rcases (show n < 1000 ∨ (1000 ≤ n ∧ n < 1000000) ∨ (1000000 ≤ n ∧ n < 1000000000) ∨ (1000000000 ≤ n ∧ n < 60000000000) ∨ (60000000000 ≤ n ∧ n < 3600000000000) ∨ 3600000000000 ≤ n by omega) with c | ⟨c0, c⟩ | ⟨c0, c⟩ | ⟨c0, c⟩ | ⟨c0, c⟩ | c0
    · exact strNeg_ns n (by omega) (by omega) c w hE
    · exact strNeg_us n (by omega) (by omega) c0 c w hE
    · exact strNeg_ms n (by omega) (by omega) c0 c w hE
    · exact strNeg_s n (by omega) (by omega) c0 c w hE
    · exact strNeg_m n (by omega) (by omega) c0 c w hE
    · exact strNeg_h n (by omega) (by omega) c0 w hE

theorem lenPos_length (n : Nat) (h : n ≤ 1000000000000000000) : (lenPos n).length ≤ 100 := by
  unfold lenPos
  have a1 := dec_len n (by omega)
  have a2 := fracText_length n 3 (by omega) (by omega)
  have a3 := fracText_length n 6 (by omega) (by omega)
  have a4 := fracText_length (n % 60000000000) 9 (by omega) (by omega)
  have a5 := dec_len (n / 60000000000 % 60) (by omega)
  have a6 := dec_len (n / 60000000000 / 60) (by omega)
  simp only
  split
  · simp; omega
  · split
    · simp; omega
    · split
      · simp; omega
      · split
        · simp; omega
        · split
          · simp; omega
          · simp; omega
theorem lenText_length (d : Int) (h0 : -1000000000000000000 ≤ d) (h1 : d ≤ 1000000000000000000) : (lenText d).length ≤ 101 := by
  have := lenPos_length d.natAbs (by omega)
  unfold lenText
  split
  · simp
  · split
    · simp; omega
    · omega

theorem f18 (d : Int) (w : World) : Calls Tryd.prog 18 #[.int .i64 d] w fun e w' => e = .returned (.int .i64 d) ∧ w = w' := by
  go_enter Tryd.func18, Tryd.ntmps18
  go_wp2_with fail
  go_ret
  exact ⟨rfl, rfl⟩

theorem f9 (d : Int) (w : World) : Calls Tryd.prog 9 #[.int .i64 d] w fun e w' => e = .returned (.pointer (some ⟨w.heap.size, 0, none⟩)) ∧ w.alloc (.cells #[.int .i64 d] 43) = w' := by
  go_enter Tryd.func9, Tryd.ntmps9
  go_wp2_with fail
  go_ret
  exact ⟨rfl, rfl⟩

theorem f10 (d p : Int) (w : World) (a : Addr) (hc : w.cell? a = some (.int .i64 d)) (h : IntKind.i64.wrap (p + d) = p + d) :
    Calls Tryd.prog 10 #[.pointer (some a), .int .i64 p] w fun e w' => e = .returned (.tuple #[.int .i64 (p + d), .nilIface]) ∧ w = w' := by
  go_enter Tryd.func10, Tryd.ntmps10
  go_wp2_with (go_at_call 18; refine (f18 _ _).mono ?_; rintro e w1 ⟨rfl, rfl⟩)
  go_ret2
  exact ⟨rfl, rfl⟩

/-- SimpleTrigger:: -/
def preS : List UInt8 := [83, 105, 109, 112, 108, 101, 84, 114, 105, 103, 103, 101, 114, 58, 58]

theorem f11 (d : Int) (h0 : -1000000000000000000 ≤ d) (h1 : d ≤ 1000000000000000000) (w : World) (a : Addr) (hc : w.cell? a = some (.int .i64 d)) (hE : Env w) :
    Calls Tryd.prog 11 #[.pointer (some a)] w fun e w' => e = .returned (.string ⟨(preS ++ lenText d).toArray⟩) ∧ Ext w w' ∧ Env w' := by
  have hl := lenText_length d h0 h1
  have H0 := Lib.hid h0
  have H1 := Lib.hid h1
  clear h0 h1
  go_enter Tryd.func11, Tryd.ntmps11
  go_wp2_with fail
  go_at_call 19
  refine (str_any d H0.out H1.out _ hE).mono ?_
  rintro e w1 ⟨rfl, x1, E1⟩
  go_wp2_with fail
  go_ret
  refine ⟨ret_bytes ?_, x1, E1⟩
  exact cat preS (lenText d)

theorem f8 (d p : Int) (a1 : decide (-1000000000000000000 ≤ d) = true) (a2 : decide (d ≤ 1000000000000000000) = true) (a3 : decide (31536000000000000 ≤ p) = true) (a4 : decide (p ≤ 7258118399999999999) = true) (w : World) :
    Calls Tryd.prog 8 #[.int .i64 d, .int .i64 p] w fun e w' => e = .returned (.bool true) ∧ w = w' := by
  go_enter Tryd.func8, Tryd.ntmps8
  go_wp2_with fail
  go_ret
  exact ⟨rfl, rfl⟩

theorem Ext.alloc (w : World) (o : Obj) : Ext w (w.alloc o) := (Below.refl _ _).alloc (Nat.le_refl _) _
theorem Env.ext {w w' : World} (h : Env w) (x : Ext w w') : Env w' := h.below x
theorem Ext.drew (w : World) : Ext w w.drew := (Below.refl _ _).drew

set_option maxHeartbeats 1000000 in
set_option maxRecDepth 100000 in
theorem f5 (d p : Int) (h0 : -1000000000000000000 ≤ d) (h1 : d ≤ 1000000000000000000) (h2 : 31536000000000000 ≤ p) (h3 : p ≤ 7258118399999999999) (w : World) (hE : Env w) :
    Calls Tryd.prog 5 #[.int .i64 d, .int .i64 p] w fun e w' => e = .returned (.tuple #[.int .i64 (p + d), .string ⟨(preS ++ lenText d).toArray⟩, .bool true]) ∧ Ext w w' ∧ Env w' := by
  have hw : IntKind.i64.wrap (p + d) = p + d := by rw [IntKind.wrap_i64]; omega
  have k8 := f8 d p (by simp; omega) (by simp; omega) (by simp; omega) (by simp; omega)
  have k11 := f11 d h0 h1
  have K8 := Lib.hid k8
  have K11 := Lib.hid k11
  have Hw := Lib.hid hw
  clear h0 h1 h2 h3 k8 k11 hw
  have hcell : (w.alloc (.cells #[.int .i64 d] 43)).cell? ⟨w.heap.size, 0, none⟩ = some (.int .i64 d) := by simp
  have hcell2 : (w.alloc (.cells #[.int .i64 d] 43)).drew.cell? ⟨w.heap.size, 0, none⟩ = some (.int .i64 d) := by simp
  have kk := K11.out (w.alloc (.cells #[.int .i64 d] 43)).drew ⟨w.heap.size, 0, none⟩ hcell2 ((hE.ext (Ext.alloc _ _)).ext (Ext.drew _))
  have KK := Lib.hid kk
  clear kk hcell2
  go_enter Tryd.func5, Tryd.ntmps5
  go_wp2_with fail
  go_at_call 8
  refine (K8.out _).mono ?_
  rintro e w1 ⟨rfl, rfl⟩
  go_wp2_with fail
  go_at_call 9
  refine (f9 _ _).mono ?_
  rintro e w1 ⟨rfl, rfl⟩
  go_wp2_with fail
  go_at_call 10
  refine (f10 _ _ _ _ hcell Hw.out).mono ?_
  rintro e w1 ⟨rfl, rfl⟩
  go_wp2_with fail
  go_region_with (go_at_call 11; refine KK.out.mono ?_; rintro e w1 ⟨rfl, x1, E1⟩)
  all_goals
    go_wp2_with fail
    go_ret3
    exact ⟨rfl, (Ext.alloc _ _).trans ((Ext.drew _).trans x1), E1⟩

/-- the law where its input is in bounds -/
theorem law_in (d p : Int) (h0 : -1000000000000000000 ≤ d) (h1 : d ≤ 1000000000000000000) (h2 : 31536000000000000 ≤ p) (h3 : p ≤ 7258118399999999999) (w : World) (hE : Env w) :
    Calls Tryd.prog 3 #[.int .i64 d, .int .i64 p] w fun e w' => e = .returned (.bool true) ∧ Ext w w' := by
  have hw : IntKind.i64.wrap (p + d) = p + d := by rw [IntKind.wrap_i64]; omega
  have k5 := f5 d p h0 h1 h2 h3
  have k6 := len_any d h0 h1
  have hl := lenText_length d h0 h1
  have t0 : decide (d < -1000000000000000000) = false := by simp; omega
  have t1 : decide (1000000000000000000 < d) = false := by simp; omega
  have t2 : decide (p < 31536000000000000) = false := by simp; omega
  have t3 : decide (7258118399999999999 < p) = false := by simp; omega
  have K5 := Lib.hid k5
  have K6 := Lib.hid k6
  clear h0 h1 h2 h3 k5 k6
  go_enter Tryd.func3, Tryd.ntmps3
  go_wp2_with fail
  go_at_call 5
  refine (K5.out _ hE).mono ?_
  rintro e w1 ⟨rfl, x1, E1⟩
  go_wp2_with fail
  refine (K6.out _ E1).mono ?_
  rintro e w2 ⟨rfl, x2, E2⟩
  have hcat : (⟨#[83, 105, 109, 112, 108, 101, 84, 114, 105, 103, 103, 101, 114, 58, 58]⟩ : ByteArray) ++ ⟨(lenText d).toArray⟩ = ⟨(preS ++ lenText d).toArray⟩ := cat preS (lenText d)
  go_wp2_with fail
  go_ret
  exact ⟨rfl, x1.trans x2⟩

theorem law_out (d p : Int) (h : d < -1000000000000000000 ∨ 1000000000000000000 < d ∨ p < 31536000000000000 ∨ 7258118399999999999 < p) (w : World) :
    Calls Tryd.prog 3 #[.int .i64 d, .int .i64 p] w fun e w' => e = .returned (.bool true) ∧ Ext w w' := by
  by_cases c0 : d < -1000000000000000000
  · have t0 : decide (d < -1000000000000000000) = true := by simp; omega
    clear c0 h
    go_enter Tryd.func3, Tryd.ntmps3
    go_wp2_with fail
    go_ret
    exact ⟨rfl, Ext.refl _⟩
  · by_cases c1 : 1000000000000000000 < d
    · have t0 : decide (d < -1000000000000000000) = false := by simp; omega
      have t1 : decide (1000000000000000000 < d) = true := by simp; omega
      clear c0 c1 h
      go_enter Tryd.func3, Tryd.ntmps3
      go_wp2_with fail
      go_ret
      exact ⟨rfl, Ext.refl _⟩
    · by_cases c2 : p < 31536000000000000
      · have t0 : decide (d < -1000000000000000000) = false := by simp; omega
        have t1 : decide (1000000000000000000 < d) = false := by simp; omega
        have t2 : decide (p < 31536000000000000) = true := by simp; omega
        clear c0 c1 c2 h
        go_enter Tryd.func3, Tryd.ntmps3
        go_wp2_with fail
        go_ret
        exact ⟨rfl, Ext.refl _⟩
      · have t0 : decide (d < -1000000000000000000) = false := by simp; omega
        have t1 : decide (1000000000000000000 < d) = false := by simp; omega
        have t2 : decide (p < 31536000000000000) = false := by simp; omega
        have t3 : decide (7258118399999999999 < p) = true := by simp; omega
        clear c0 c1 c2 h
        go_enter Tryd.func3, Tryd.ntmps3
        go_wp2_with fail
        go_ret
        exact ⟨rfl, Ext.refl _⟩

theorem law_simple (d p : Int) (w : World) (hE : Env w) : Calls Tryd.prog 3 #[.int .i64 d, .int .i64 p] w fun e w' => e = .returned (.bool true) ∧ Ext w w' := by
  by_cases h : d < -1000000000000000000 ∨ 1000000000000000000 < d ∨ p < 31536000000000000 ∨ 7258118399999999999 < p
  · exact law_out d p h w
  · exact law_in d p (by omega) (by omega) (by omega) (by omega) w hE
end Go.Proofs.YtmaffdhcmdhjfaaDoor
