/- spec.Length and quartz.Duration.String give one and the same text of a length of time, for every length of 64 bits up to 10^18 either way; its conditions: the table of powers of ten reads as laid. -/
import Derived.Test.YtmaffdhcmdhjfaaDoorZz
namespace Go.Proofs.YtmaffdhcmdhjfaaDoor
open Go.RowKit Go.Sort Go.Lib

/-- a later world: what was there is as it was -/
def Ext (w w' : World) : Prop := Below w.heap.size w w'
theorem Ext.refl (w : World) : Ext w w := Below.refl _ _
theorem Ext.trans {a b c : World} (h : Ext a b) (k : Ext b c) : Ext a c := Below.trans h (Below.mono k h.size)

theorem fu (u : Nat) (hu : u < 18446744073709551616) (w : World) (h : Env w) :
    Calls Tryd.prog 12 #[.int .u64 u, .int .i64 10] w fun e w' => e = .returned (.string ⟨(Lib.decDigits u).toArray⟩) ∧ Ext w w' ∧ Env w' :=
  (strconv_FormatUint u hu w h.tab).mono fun _ _ ⟨a, b⟩ => ⟨a, b, h.below b⟩
theorem f13 (n k : Nat) (u : Int) (hu : u = ((10 ^ k : Nat) : Int)) (hn : n < 18446744073709551616) (hk : k ≤ 9) (hk1 : 1 ≤ k) (w : World) (h : Env w) :
    Calls Tryd.prog 13 #[.int .u64 n, .int .u64 u] w fun e w' => e = .returned (.string ⟨(fracText n k).toArray⟩) ∧ Ext w w' ∧ Env w' := by
  rw [hu]; exact (spec_fraction n k hn hk hk1 w h).mono fun _ _ ⟨a, b⟩ => ⟨a, b, h.below b⟩
theorem f23 (n k : Nat) (u : Int) (hu : u = ((10 ^ k : Nat) : Int)) (hn : n < 18446744073709551616) (hk : k ≤ 9) (hk1 : 1 ≤ k) (w : World) (h : Env w) :
    Calls Tryd.prog 23 #[.int .u64 n, .int .u64 u] w fun e w' => e = .returned (.string ⟨(fracText n k).toArray⟩) ∧ Ext w w' ∧ Env w' := by
  rw [hu]; exact (zz_fraction n k hn hk hk1 w h).mono fun _ _ ⟨a, b⟩ => ⟨a, b, h.below b⟩

theorem fracL_length : ∀ (k r : Nat), (fracL k r).length ≤ k
  | 0, _ => by simp [fracL]
  | k + 1, r => by
    unfold fracL
    split
    · simp
    · have := fracL_length k (r % 10 ^ k); simp; omega
theorem fracText_length (n k : Nat) (hn : n < 18446744073709551616) (hk : k ≤ 9) : (fracText n k).length ≤ 30 := by
  unfold fracText
  have h1 := dec_len (n / 10 ^ k) (Nat.lt_of_le_of_lt (Nat.div_le_self _ _) hn)
  have h2 := fracL_length k (n % 10 ^ k)
  split
  · simp; omega
  · simp; omega
theorem ret_bytes {a b : ByteArray} (h : a = b) : Ending.returned (.string a) = .returned (.string b) := by rw [h]
theorem cat (a b : List UInt8) : (⟨a.toArray⟩ : ByteArray) ++ ⟨b.toArray⟩ = ⟨(a ++ b).toArray⟩ := ByteArray.mk_append_mk a b
theorem lenText_pos (n : Nat) (h : 0 < n) : lenText (n : Int) = lenPos n := by
  unfold lenText; rw [if_neg (by omega), if_neg (by omega)]; rfl
theorem lenText_neg (n : Nat) (h : 0 < n) : lenText (-(n : Int)) = 45 :: lenPos n := by
  unfold lenText; rw [if_neg (by omega), if_pos (by omega)]; simp

set_option maxHeartbeats 1000000 in
set_option maxRecDepth 100000 in
theorem lenPos_ns (n : Nat) (h0 : 0 < n) (h1 : n ≤ 1000000000000000000) (c : n < 1000) (w : World) (hE : Env w) :
    Calls Tryd.prog 6 #[.int .i64 ((n : Int))] w fun e w' => e = .returned (.string ⟨(lenText ((n : Int))).toArray⟩) ∧ Ext w w' ∧ Env w' := by
  have a1 : IntKind.u64.wrap (n : Int) = (n : Int) := by rw [IntKind.wrap_u64]; omega
  have a3 : ((n : Int) == 0) = false := by rw [beq_eq_false_iff_ne]; omega
  have l1 := dec_len n (by omega)
  have fin : lenPos n = decDigits n ++ [110, 115] := by unfold lenPos; rw [if_pos c]
  have Fin := Lib.hid fin
  clear fin
  have t1000 : decide ((n : Int) < 1000) = true := by simp; omega
  have t1000000 : decide ((n : Int) < 1000000) = true := by simp; omega
  have t1000000000 : decide ((n : Int) < 1000000000) = true := by simp; omega
  have tneg : decide ((n : Int) < 0) = false := by simp
  have H0 := Lib.hid h0
  have H1 := Lib.hid h1
  have C := Lib.hid c
  clear h0 h1 c
  go_enter Tryd.func6, Tryd.ntmps6
  go_wp2_with fail
  go_at_call 12
  refine (fu n (Nat.lt_of_le_of_lt H1.out (by decide)) _ (by assumption)).mono ?_
  rintro e w1 ⟨rfl, x1, E1⟩
  go_wp2_with fail
  go_ret
  refine ⟨ret_bytes ?_, x1, E1⟩
  rw [lenText_pos n H0.out, Fin.out]
  apply ByteArray.ext
  simp [ByteArray.data_append]
set_option maxHeartbeats 1000000 in
set_option maxRecDepth 100000 in
theorem lenPos_us (n : Nat) (h0 : 0 < n) (h1 : n ≤ 1000000000000000000) (c0 : 1000 ≤ n) (c : n < 1000000) (w : World) (hE : Env w) :
    Calls Tryd.prog 6 #[.int .i64 ((n : Int))] w fun e w' => e = .returned (.string ⟨(lenText ((n : Int))).toArray⟩) ∧ Ext w w' ∧ Env w' := by
  have a1 : IntKind.u64.wrap (n : Int) = (n : Int) := by rw [IntKind.wrap_u64]; omega
  have a3 : ((n : Int) == 0) = false := by rw [beq_eq_false_iff_ne]; omega
  have l1 := fracText_length n 3 (by omega) (by omega)
  have fin : lenPos n = fracText n 3 ++ [194, 181, 115] := by unfold lenPos; rw [if_neg (by omega), if_pos c]
  have Fin := Lib.hid fin
  clear fin
  have t1000 : decide ((n : Int) < 1000) = false := by simp; omega
  have t1000000 : decide ((n : Int) < 1000000) = true := by simp; omega
  have t1000000000 : decide ((n : Int) < 1000000000) = true := by simp; omega
  have tneg : decide ((n : Int) < 0) = false := by simp
  have H0 := Lib.hid h0
  have H1 := Lib.hid h1
  have C := Lib.hid c
  clear h0 h1 c c0
  go_enter Tryd.func6, Tryd.ntmps6
  go_wp2_with fail
  go_at_call 13
  refine (f13 n 3 1000 (by decide) (Nat.lt_of_le_of_lt H1.out (by decide)) (by omega) (by omega) _ (by assumption)).mono ?_
  rintro e w1 ⟨rfl, x1, E1⟩
  go_wp2_with fail
  go_ret
  refine ⟨ret_bytes ?_, x1, E1⟩
  rw [lenText_pos n H0.out, Fin.out]
  apply ByteArray.ext
  simp [ByteArray.data_append]
set_option maxHeartbeats 1000000 in
set_option maxRecDepth 100000 in
theorem lenPos_ms (n : Nat) (h0 : 0 < n) (h1 : n ≤ 1000000000000000000) (c0 : 1000000 ≤ n) (c : n < 1000000000) (w : World) (hE : Env w) :
    Calls Tryd.prog 6 #[.int .i64 ((n : Int))] w fun e w' => e = .returned (.string ⟨(lenText ((n : Int))).toArray⟩) ∧ Ext w w' ∧ Env w' := by
  have a1 : IntKind.u64.wrap (n : Int) = (n : Int) := by rw [IntKind.wrap_u64]; omega
  have a3 : ((n : Int) == 0) = false := by rw [beq_eq_false_iff_ne]; omega
  have l1 := fracText_length n 6 (by omega) (by omega)
  have fin : lenPos n = fracText n 6 ++ [109, 115] := by unfold lenPos; rw [if_neg (by omega), if_neg (by omega), if_pos c]
  have Fin := Lib.hid fin
  clear fin
  have t1000 : decide ((n : Int) < 1000) = false := by simp; omega
  have t1000000 : decide ((n : Int) < 1000000) = false := by simp; omega
  have t1000000000 : decide ((n : Int) < 1000000000) = true := by simp; omega
  have tneg : decide ((n : Int) < 0) = false := by simp
  have H0 := Lib.hid h0
  have H1 := Lib.hid h1
  have C := Lib.hid c
  clear h0 h1 c c0
  go_enter Tryd.func6, Tryd.ntmps6
  go_wp2_with fail
  go_at_call 13
  refine (f13 n 6 1000000 (by decide) (Nat.lt_of_le_of_lt H1.out (by decide)) (by omega) (by omega) _ (by assumption)).mono ?_
  rintro e w1 ⟨rfl, x1, E1⟩
  go_wp2_with fail
  go_ret
  refine ⟨ret_bytes ?_, x1, E1⟩
  rw [lenText_pos n H0.out, Fin.out]
  apply ByteArray.ext
  simp [ByteArray.data_append]
set_option maxHeartbeats 1000000 in
set_option maxRecDepth 100000 in
theorem lenPos_s (n : Nat) (h0 : 0 < n) (h1 : n ≤ 1000000000000000000) (c0 : 1000000000 ≤ n) (c : n < 60000000000) (w : World) (hE : Env w) :
    Calls Tryd.prog 6 #[.int .i64 ((n : Int))] w fun e w' => e = .returned (.string ⟨(lenText ((n : Int))).toArray⟩) ∧ Ext w w' ∧ Env w' := by
  have a1 : IntKind.u64.wrap (n : Int) = (n : Int) := by rw [IntKind.wrap_u64]; omega
  have a3 : ((n : Int) == 0) = false := by rw [beq_eq_false_iff_ne]; omega
  obtain ⟨r, hr⟩ : ∃ r, r = n % 60000000000 := ⟨_, rfl⟩
  obtain ⟨m, hm⟩ : ∃ m, m = n / 60000000000 := ⟨_, rfl⟩
  have l1 := fracText_length r 9 (by omega) (by omega)
  have b1 : (n : Int) % 60000000000 = (r : Int) := by omega
  have b2 : IntKind.u64.wrap ((n : Int) / 60000000000) = (m : Int) := by rw [IntKind.wrap_u64]; omega
  have rb : r < 60000000000 := by omega
  have m0 : m = 0 := by omega
  have m1 : ((m : Int) == 0) = true := by rw [beq_iff_eq]; omega
  have m2 : decide (0 < m) = false := by simp; omega
  have M0 := Lib.hid m0
  clear m0
  have Hr := Lib.hid hr
  have Hm := Lib.hid hm
  clear hr hm
  have fin : lenPos n = fracText r 9 ++ [115] := by unfold lenPos; rw [if_neg (by omega), if_neg (by omega), if_neg (by omega)]; simp only [← Hr.out, ← Hm.out]; rw [if_pos M0.out]
  have Fin := Lib.hid fin
  clear fin
  have t1000 : decide ((n : Int) < 1000) = false := by simp; omega
  have t1000000 : decide ((n : Int) < 1000000) = false := by simp; omega
  have t1000000000 : decide ((n : Int) < 1000000000) = false := by simp; omega
  have tneg : decide ((n : Int) < 0) = false := by simp
  have H0 := Lib.hid h0
  have H1 := Lib.hid h1
  have C := Lib.hid c
  clear h0 h1 c c0
  have RB : r < 18446744073709551616 := by omega
  have RB' := Lib.hid RB
  clear rb RB
  go_enter Tryd.func6, Tryd.ntmps6
  go_wp2_with fail
  go_at_call 13
  refine (f13 r 9 1000000000 (by decide) RB'.out (by omega) (by omega) _ (by assumption)).mono ?_
  rintro e w1 ⟨rfl, x1, E1⟩
  go_wp2_with fail
  go_ret
  refine ⟨ret_bytes ?_, x1, E1⟩
  rw [lenText_pos n H0.out, Fin.out]
  apply ByteArray.ext
  simp [ByteArray.data_append]
set_option maxHeartbeats 1000000 in
set_option maxRecDepth 100000 in
theorem lenPos_m (n : Nat) (h0 : 0 < n) (h1 : n ≤ 1000000000000000000) (c0 : 60000000000 ≤ n) (c : n < 3600000000000) (w : World) (hE : Env w) :
    Calls Tryd.prog 6 #[.int .i64 ((n : Int))] w fun e w' => e = .returned (.string ⟨(lenText ((n : Int))).toArray⟩) ∧ Ext w w' ∧ Env w' := by
  have a1 : IntKind.u64.wrap (n : Int) = (n : Int) := by rw [IntKind.wrap_u64]; omega
  have a3 : ((n : Int) == 0) = false := by rw [beq_eq_false_iff_ne]; omega
  obtain ⟨r, hr⟩ : ∃ r, r = n % 60000000000 := ⟨_, rfl⟩
  obtain ⟨m, hm⟩ : ∃ m, m = n / 60000000000 := ⟨_, rfl⟩
  have l1 := fracText_length r 9 (by omega) (by omega)
  have b1 : (n : Int) % 60000000000 = (r : Int) := by omega
  have b2 : IntKind.u64.wrap ((n : Int) / 60000000000) = (m : Int) := by rw [IntKind.wrap_u64]; omega
  have rb : r < 60000000000 := by omega
  have mb : 1 ≤ m ∧ m ≤ 1000000000 := by omega
  obtain ⟨m1, m2⟩ := mb
  have tm0 : decide (0 < m) = true := by simp; omega
  have m3 : ((m : Int) == 0) = false := by rw [beq_eq_false_iff_ne]; omega
  obtain ⟨g, hg⟩ : ∃ g, g = m % 60 := ⟨_, rfl⟩
  have b5 : (m : Int) % 60 = (g : Int) := by omega
  have gb : g < 60 := by omega
  have l2 := dec_len g (by omega)
  have m4 : m < 60 := by omega
  have tm60 : decide ((m : Int) < 60) = true := by simp; omega
  have Hr := Lib.hid hr
  have Hm := Lib.hid hm
  have Hg := Lib.hid hg
  clear hr hm hg
  have fin : lenPos n = decDigits g ++ [109] ++ (fracText r 9 ++ [115]) := by unfold lenPos; rw [if_neg (by omega), if_neg (by omega), if_neg (by omega)]; simp only [← Hr.out, ← Hm.out, ← Hg.out]; rw [if_neg (by omega), if_pos m4]
  have Fin := Lib.hid fin
  clear fin
  have t1000 : decide ((n : Int) < 1000) = false := by simp; omega
  have t1000000 : decide ((n : Int) < 1000000) = false := by simp; omega
  have t1000000000 : decide ((n : Int) < 1000000000) = false := by simp; omega
  have tneg : decide ((n : Int) < 0) = false := by simp
  have H0 := Lib.hid h0
  have H1 := Lib.hid h1
  have C := Lib.hid c
  clear h0 h1 c c0
  have RB : r < 18446744073709551616 := by omega
  have RB' := Lib.hid RB
  clear rb RB
  have GB : g < 18446744073709551616 := by omega
  have GB' := Lib.hid GB
  clear m1 m2 gb GB m4
  go_enter Tryd.func6, Tryd.ntmps6
  go_wp2_with fail
  go_at_call 13
  refine (f13 r 9 1000000000 (by decide) RB'.out (by omega) (by omega) _ (by assumption)).mono ?_
  rintro e w1 ⟨rfl, x1, E1⟩
  go_wp2_with fail
  go_at_call 12
  refine (fu g GB'.out _ (by assumption)).mono ?_
  rintro e w2 ⟨rfl, x2, E2⟩
  go_wp2_with fail
  go_ret
  refine ⟨ret_bytes ?_, x1.trans x2, E2⟩
  rw [lenText_pos n H0.out, Fin.out]
  apply ByteArray.ext
  simp [ByteArray.data_append]
set_option maxHeartbeats 1000000 in
set_option maxRecDepth 100000 in
theorem lenPos_h (n : Nat) (h0 : 0 < n) (h1 : n ≤ 1000000000000000000) (c0 : 3600000000000 ≤ n) (w : World) (hE : Env w) :
    Calls Tryd.prog 6 #[.int .i64 ((n : Int))] w fun e w' => e = .returned (.string ⟨(lenText ((n : Int))).toArray⟩) ∧ Ext w w' ∧ Env w' := by
  have a1 : IntKind.u64.wrap (n : Int) = (n : Int) := by rw [IntKind.wrap_u64]; omega
  have a3 : ((n : Int) == 0) = false := by rw [beq_eq_false_iff_ne]; omega
  obtain ⟨r, hr⟩ : ∃ r, r = n % 60000000000 := ⟨_, rfl⟩
  obtain ⟨m, hm⟩ : ∃ m, m = n / 60000000000 := ⟨_, rfl⟩
  have l1 := fracText_length r 9 (by omega) (by omega)
  have b1 : (n : Int) % 60000000000 = (r : Int) := by omega
  have b2 : IntKind.u64.wrap ((n : Int) / 60000000000) = (m : Int) := by rw [IntKind.wrap_u64]; omega
  have rb : r < 60000000000 := by omega
  have mb : 1 ≤ m ∧ m ≤ 1000000000 := by omega
  obtain ⟨m1, m2⟩ := mb
  have tm0 : decide (0 < m) = true := by simp; omega
  have m3 : ((m : Int) == 0) = false := by rw [beq_eq_false_iff_ne]; omega
  obtain ⟨g, hg⟩ : ∃ g, g = m % 60 := ⟨_, rfl⟩
  have b5 : (m : Int) % 60 = (g : Int) := by omega
  have gb : g < 60 := by omega
  have l2 := dec_len g (by omega)
  have m4 : 60 ≤ m := by omega
  have tm60 : decide ((m : Int) < 60) = false := by simp; omega
  obtain ⟨q, hq⟩ : ∃ q, q = m / 60 := ⟨_, rfl⟩
  have b6 : IntKind.u64.wrap ((m : Int) / 60) = (q : Int) := by rw [IntKind.wrap_u64]; omega
  have tq0 : decide (0 < q) = true := by simp; omega
  have qb : 1 ≤ q := by omega
  have qb2 : q ≤ 100000000 := by omega
  have l3 := dec_len q (by omega)
  have Hr := Lib.hid hr
  have Hm := Lib.hid hm
  have Hg := Lib.hid hg
  have Hq := Lib.hid hq
  clear hr hm hg hq
  have fin : lenPos n = decDigits q ++ [104] ++ (decDigits g ++ [109] ++ (fracText r 9 ++ [115])) := by unfold lenPos; rw [if_neg (by omega), if_neg (by omega), if_neg (by omega)]; simp only [← Hr.out, ← Hm.out, ← Hg.out, ← Hq.out]; rw [if_neg (by omega), if_neg (by omega)]
  have Fin := Lib.hid fin
  clear fin
  have t1000 : decide ((n : Int) < 1000) = false := by simp; omega
  have t1000000 : decide ((n : Int) < 1000000) = false := by simp; omega
  have t1000000000 : decide ((n : Int) < 1000000000) = false := by simp; omega
  have tneg : decide ((n : Int) < 0) = false := by simp
  have H0 := Lib.hid h0
  have H1 := Lib.hid h1
  have C := Lib.hid c0
  clear h0 h1 c0
  have RB : r < 18446744073709551616 := by omega
  have RB' := Lib.hid RB
  clear rb RB
  have GB : g < 18446744073709551616 := by omega
  have GB' := Lib.hid GB
  clear m1 m2 gb GB m4
  have QB : q < 18446744073709551616 := by omega
  have QB' := Lib.hid QB
  clear qb qb2 QB
  go_enter Tryd.func6, Tryd.ntmps6
  go_wp2_with fail
  go_at_call 13
  refine (f13 r 9 1000000000 (by decide) RB'.out (by omega) (by omega) _ (by assumption)).mono ?_
  rintro e w1 ⟨rfl, x1, E1⟩
  go_wp2_with fail
  go_at_call 12
  refine (fu g GB'.out _ (by assumption)).mono ?_
  rintro e w2 ⟨rfl, x2, E2⟩
  go_wp2_with fail
  go_at_call 12
  refine (fu q QB'.out _ (by assumption)).mono ?_
  rintro e w3 ⟨rfl, x3, E3⟩
  go_wp2_with fail
  go_ret
  refine ⟨ret_bytes ?_, x1.trans (x2.trans x3), E3⟩
  rw [lenText_pos n H0.out, Fin.out]
  apply ByteArray.ext
  simp [ByteArray.data_append]
set_option maxHeartbeats 1000000 in
set_option maxRecDepth 100000 in
theorem lenNeg_ns (n : Nat) (h0 : 0 < n) (h1 : n ≤ 1000000000000000000) (c : n < 1000) (w : World) (hE : Env w) :
    Calls Tryd.prog 6 #[.int .i64 (-(n : Int))] w fun e w' => e = .returned (.string ⟨(lenText (-(n : Int))).toArray⟩) ∧ Ext w w' ∧ Env w' := by
  obtain ⟨N, hN⟩ : ∃ N : Int, N = 18446744073709551616 - (n : Int) := ⟨_, rfl⟩
  have a1 : IntKind.u64.wrap (-(n : Int)) = N := by rw [IntKind.wrap_u64]; omega
  have a2 : IntKind.u64.wrap (-N) = (n : Int) := by rw [IntKind.wrap_u64]; omega
  clear hN
  have a3 : (-(n : Int) == 0) = false := by rw [beq_eq_false_iff_ne]; omega
  have a3' : ((n : Int) == 0) = false := by rw [beq_eq_false_iff_ne]; omega
  have l1 := dec_len n (by omega)
  have fin : lenPos n = decDigits n ++ [110, 115] := by unfold lenPos; rw [if_pos c]
  have Fin := Lib.hid fin
  clear fin
  have t1000 : decide ((n : Int) < 1000) = true := by simp; omega
  have t1000000 : decide ((n : Int) < 1000000) = true := by simp; omega
  have t1000000000 : decide ((n : Int) < 1000000000) = true := by simp; omega
  have tneg : decide (-(n : Int) < 0) = true := by simp; omega
  have tneg' : decide (0 < n) = true := by simp; omega
  have H0 := Lib.hid h0
  have H1 := Lib.hid h1
  have C := Lib.hid c
  clear h0 h1 c
  go_enter Tryd.func6, Tryd.ntmps6
  go_wp2_with fail
  go_at_call 12
  refine (fu n (Nat.lt_of_le_of_lt H1.out (by decide)) _ (by assumption)).mono ?_
  rintro e w1 ⟨rfl, x1, E1⟩
  go_wp2_with fail
  go_ret
  refine ⟨ret_bytes ?_, x1, E1⟩
  rw [lenText_neg n H0.out, Fin.out]
  apply ByteArray.ext
  simp [ByteArray.data_append]
set_option maxHeartbeats 1000000 in
set_option maxRecDepth 100000 in
theorem lenNeg_us (n : Nat) (h0 : 0 < n) (h1 : n ≤ 1000000000000000000) (c0 : 1000 ≤ n) (c : n < 1000000) (w : World) (hE : Env w) :
    Calls Tryd.prog 6 #[.int .i64 (-(n : Int))] w fun e w' => e = .returned (.string ⟨(lenText (-(n : Int))).toArray⟩) ∧ Ext w w' ∧ Env w' := by
  obtain ⟨N, hN⟩ : ∃ N : Int, N = 18446744073709551616 - (n : Int) := ⟨_, rfl⟩
  have a1 : IntKind.u64.wrap (-(n : Int)) = N := by rw [IntKind.wrap_u64]; omega
  have a2 : IntKind.u64.wrap (-N) = (n : Int) := by rw [IntKind.wrap_u64]; omega
  clear hN
  have a3 : (-(n : Int) == 0) = false := by rw [beq_eq_false_iff_ne]; omega
  have a3' : ((n : Int) == 0) = false := by rw [beq_eq_false_iff_ne]; omega
  have l1 := fracText_length n 3 (by omega) (by omega)
  have fin : lenPos n = fracText n 3 ++ [194, 181, 115] := by unfold lenPos; rw [if_neg (by omega), if_pos c]
  have Fin := Lib.hid fin
  clear fin
  have t1000 : decide ((n : Int) < 1000) = false := by simp; omega
  have t1000000 : decide ((n : Int) < 1000000) = true := by simp; omega
  have t1000000000 : decide ((n : Int) < 1000000000) = true := by simp; omega
  have tneg : decide (-(n : Int) < 0) = true := by simp; omega
  have tneg' : decide (0 < n) = true := by simp; omega
  have H0 := Lib.hid h0
  have H1 := Lib.hid h1
  have C := Lib.hid c
  clear h0 h1 c c0
  go_enter Tryd.func6, Tryd.ntmps6
  go_wp2_with fail
  go_at_call 13
  refine (f13 n 3 1000 (by decide) (Nat.lt_of_le_of_lt H1.out (by decide)) (by omega) (by omega) _ (by assumption)).mono ?_
  rintro e w1 ⟨rfl, x1, E1⟩
  go_wp2_with fail
  go_ret
  refine ⟨ret_bytes ?_, x1, E1⟩
  rw [lenText_neg n H0.out, Fin.out]
  apply ByteArray.ext
  simp [ByteArray.data_append]
set_option maxHeartbeats 1000000 in
set_option maxRecDepth 100000 in
theorem lenNeg_ms (n : Nat) (h0 : 0 < n) (h1 : n ≤ 1000000000000000000) (c0 : 1000000 ≤ n) (c : n < 1000000000) (w : World) (hE : Env w) :
    Calls Tryd.prog 6 #[.int .i64 (-(n : Int))] w fun e w' => e = .returned (.string ⟨(lenText (-(n : Int))).toArray⟩) ∧ Ext w w' ∧ Env w' := by
  obtain ⟨N, hN⟩ : ∃ N : Int, N = 18446744073709551616 - (n : Int) := ⟨_, rfl⟩
  have a1 : IntKind.u64.wrap (-(n : Int)) = N := by rw [IntKind.wrap_u64]; omega
  have a2 : IntKind.u64.wrap (-N) = (n : Int) := by rw [IntKind.wrap_u64]; omega
  clear hN
  have a3 : (-(n : Int) == 0) = false := by rw [beq_eq_false_iff_ne]; omega
  have a3' : ((n : Int) == 0) = false := by rw [beq_eq_false_iff_ne]; omega
  have l1 := fracText_length n 6 (by omega) (by omega)
  have fin : lenPos n = fracText n 6 ++ [109, 115] := by unfold lenPos; rw [if_neg (by omega), if_neg (by omega), if_pos c]
  have Fin := Lib.hid fin
  clear fin
  have t1000 : decide ((n : Int) < 1000) = false := by simp; omega
  have t1000000 : decide ((n : Int) < 1000000) = false := by simp; omega
  have t1000000000 : decide ((n : Int) < 1000000000) = true := by simp; omega
  have tneg : decide (-(n : Int) < 0) = true := by simp; omega
  have tneg' : decide (0 < n) = true := by simp; omega
  have H0 := Lib.hid h0
  have H1 := Lib.hid h1
  have C := Lib.hid c
  clear h0 h1 c c0
  go_enter Tryd.func6, Tryd.ntmps6
  go_wp2_with fail
  go_at_call 13
  refine (f13 n 6 1000000 (by decide) (Nat.lt_of_le_of_lt H1.out (by decide)) (by omega) (by omega) _ (by assumption)).mono ?_
  rintro e w1 ⟨rfl, x1, E1⟩
  go_wp2_with fail
  go_ret
  refine ⟨ret_bytes ?_, x1, E1⟩
  rw [lenText_neg n H0.out, Fin.out]
  apply ByteArray.ext
  simp [ByteArray.data_append]
set_option maxHeartbeats 1000000 in
set_option maxRecDepth 100000 in
theorem lenNeg_s (n : Nat) (h0 : 0 < n) (h1 : n ≤ 1000000000000000000) (c0 : 1000000000 ≤ n) (c : n < 60000000000) (w : World) (hE : Env w) :
    Calls Tryd.prog 6 #[.int .i64 (-(n : Int))] w fun e w' => e = .returned (.string ⟨(lenText (-(n : Int))).toArray⟩) ∧ Ext w w' ∧ Env w' := by
  obtain ⟨N, hN⟩ : ∃ N : Int, N = 18446744073709551616 - (n : Int) := ⟨_, rfl⟩
  have a1 : IntKind.u64.wrap (-(n : Int)) = N := by rw [IntKind.wrap_u64]; omega
  have a2 : IntKind.u64.wrap (-N) = (n : Int) := by rw [IntKind.wrap_u64]; omega
  clear hN
  have a3 : (-(n : Int) == 0) = false := by rw [beq_eq_false_iff_ne]; omega
  have a3' : ((n : Int) == 0) = false := by rw [beq_eq_false_iff_ne]; omega
  obtain ⟨r, hr⟩ : ∃ r, r = n % 60000000000 := ⟨_, rfl⟩
  obtain ⟨m, hm⟩ : ∃ m, m = n / 60000000000 := ⟨_, rfl⟩
  have l1 := fracText_length r 9 (by omega) (by omega)
  have b1 : (n : Int) % 60000000000 = (r : Int) := by omega
  have b2 : IntKind.u64.wrap ((n : Int) / 60000000000) = (m : Int) := by rw [IntKind.wrap_u64]; omega
  have rb : r < 60000000000 := by omega
  have m0 : m = 0 := by omega
  have m1 : ((m : Int) == 0) = true := by rw [beq_iff_eq]; omega
  have m2 : decide (0 < m) = false := by simp; omega
  have M0 := Lib.hid m0
  clear m0
  have Hr := Lib.hid hr
  have Hm := Lib.hid hm
  clear hr hm
  have fin : lenPos n = fracText r 9 ++ [115] := by unfold lenPos; rw [if_neg (by omega), if_neg (by omega), if_neg (by omega)]; simp only [← Hr.out, ← Hm.out]; rw [if_pos M0.out]
  have Fin := Lib.hid fin
  clear fin
  have t1000 : decide ((n : Int) < 1000) = false := by simp; omega
  have t1000000 : decide ((n : Int) < 1000000) = false := by simp; omega
  have t1000000000 : decide ((n : Int) < 1000000000) = false := by simp; omega
  have tneg : decide (-(n : Int) < 0) = true := by simp; omega
  have tneg' : decide (0 < n) = true := by simp; omega
  have H0 := Lib.hid h0
  have H1 := Lib.hid h1
  have C := Lib.hid c
  clear h0 h1 c c0
  have RB : r < 18446744073709551616 := by omega
  have RB' := Lib.hid RB
  clear rb RB
  go_enter Tryd.func6, Tryd.ntmps6
  go_wp2_with fail
  go_at_call 13
  refine (f13 r 9 1000000000 (by decide) RB'.out (by omega) (by omega) _ (by assumption)).mono ?_
  rintro e w1 ⟨rfl, x1, E1⟩
  go_wp2_with fail
  go_ret
  refine ⟨ret_bytes ?_, x1, E1⟩
  rw [lenText_neg n H0.out, Fin.out]
  apply ByteArray.ext
  simp [ByteArray.data_append]
set_option maxHeartbeats 1000000 in
set_option maxRecDepth 100000 in
theorem lenNeg_m (n : Nat) (h0 : 0 < n) (h1 : n ≤ 1000000000000000000) (c0 : 60000000000 ≤ n) (c : n < 3600000000000) (w : World) (hE : Env w) :
    Calls Tryd.prog 6 #[.int .i64 (-(n : Int))] w fun e w' => e = .returned (.string ⟨(lenText (-(n : Int))).toArray⟩) ∧ Ext w w' ∧ Env w' := by
  obtain ⟨N, hN⟩ : ∃ N : Int, N = 18446744073709551616 - (n : Int) := ⟨_, rfl⟩
  have a1 : IntKind.u64.wrap (-(n : Int)) = N := by rw [IntKind.wrap_u64]; omega
  have a2 : IntKind.u64.wrap (-N) = (n : Int) := by rw [IntKind.wrap_u64]; omega
  clear hN
  have a3 : (-(n : Int) == 0) = false := by rw [beq_eq_false_iff_ne]; omega
  have a3' : ((n : Int) == 0) = false := by rw [beq_eq_false_iff_ne]; omega
  obtain ⟨r, hr⟩ : ∃ r, r = n % 60000000000 := ⟨_, rfl⟩
  obtain ⟨m, hm⟩ : ∃ m, m = n / 60000000000 := ⟨_, rfl⟩
  have l1 := fracText_length r 9 (by omega) (by omega)
  have b1 : (n : Int) % 60000000000 = (r : Int) := by omega
  have b2 : IntKind.u64.wrap ((n : Int) / 60000000000) = (m : Int) := by rw [IntKind.wrap_u64]; omega
  have rb : r < 60000000000 := by omega
  have mb : 1 ≤ m ∧ m ≤ 1000000000 := by omega
  obtain ⟨m1, m2⟩ := mb
  have tm0 : decide (0 < m) = true := by simp; omega
  have m3 : ((m : Int) == 0) = false := by rw [beq_eq_false_iff_ne]; omega
  obtain ⟨g, hg⟩ : ∃ g, g = m % 60 := ⟨_, rfl⟩
  have b5 : (m : Int) % 60 = (g : Int) := by omega
  have gb : g < 60 := by omega
  have l2 := dec_len g (by omega)
  have m4 : m < 60 := by omega
  have tm60 : decide ((m : Int) < 60) = true := by simp; omega
  have Hr := Lib.hid hr
  have Hm := Lib.hid hm
  have Hg := Lib.hid hg
  clear hr hm hg
  have fin : lenPos n = decDigits g ++ [109] ++ (fracText r 9 ++ [115]) := by unfold lenPos; rw [if_neg (by omega), if_neg (by omega), if_neg (by omega)]; simp only [← Hr.out, ← Hm.out, ← Hg.out]; rw [if_neg (by omega), if_pos m4]
  have Fin := Lib.hid fin
  clear fin
  have t1000 : decide ((n : Int) < 1000) = false := by simp; omega
  have t1000000 : decide ((n : Int) < 1000000) = false := by simp; omega
  have t1000000000 : decide ((n : Int) < 1000000000) = false := by simp; omega
  have tneg : decide (-(n : Int) < 0) = true := by simp; omega
  have tneg' : decide (0 < n) = true := by simp; omega
  have H0 := Lib.hid h0
  have H1 := Lib.hid h1
  have C := Lib.hid c
  clear h0 h1 c c0
  have RB : r < 18446744073709551616 := by omega
  have RB' := Lib.hid RB
  clear rb RB
  have GB : g < 18446744073709551616 := by omega
  have GB' := Lib.hid GB
  clear m1 m2 gb GB m4
  go_enter Tryd.func6, Tryd.ntmps6
  go_wp2_with fail
  go_at_call 13
  refine (f13 r 9 1000000000 (by decide) RB'.out (by omega) (by omega) _ (by assumption)).mono ?_
  rintro e w1 ⟨rfl, x1, E1⟩
  go_wp2_with fail
  go_at_call 12
  refine (fu g GB'.out _ (by assumption)).mono ?_
  rintro e w2 ⟨rfl, x2, E2⟩
  go_wp2_with fail
  go_ret
  refine ⟨ret_bytes ?_, x1.trans x2, E2⟩
  rw [lenText_neg n H0.out, Fin.out]
  apply ByteArray.ext
  simp [ByteArray.data_append]
set_option maxHeartbeats 1000000 in
set_option maxRecDepth 100000 in
theorem lenNeg_h (n : Nat) (h0 : 0 < n) (h1 : n ≤ 1000000000000000000) (c0 : 3600000000000 ≤ n) (w : World) (hE : Env w) :
    Calls Tryd.prog 6 #[.int .i64 (-(n : Int))] w fun e w' => e = .returned (.string ⟨(lenText (-(n : Int))).toArray⟩) ∧ Ext w w' ∧ Env w' := by
  obtain ⟨N, hN⟩ : ∃ N : Int, N = 18446744073709551616 - (n : Int) := ⟨_, rfl⟩
  have a1 : IntKind.u64.wrap (-(n : Int)) = N := by rw [IntKind.wrap_u64]; omega
  have a2 : IntKind.u64.wrap (-N) = (n : Int) := by rw [IntKind.wrap_u64]; omega
  clear hN
  have a3 : (-(n : Int) == 0) = false := by rw [beq_eq_false_iff_ne]; omega
  have a3' : ((n : Int) == 0) = false := by rw [beq_eq_false_iff_ne]; omega
  obtain ⟨r, hr⟩ : ∃ r, r = n % 60000000000 := ⟨_, rfl⟩
  obtain ⟨m, hm⟩ : ∃ m, m = n / 60000000000 := ⟨_, rfl⟩
  have l1 := fracText_length r 9 (by omega) (by omega)
  have b1 : (n : Int) % 60000000000 = (r : Int) := by omega
  have b2 : IntKind.u64.wrap ((n : Int) / 60000000000) = (m : Int) := by rw [IntKind.wrap_u64]; omega
  have rb : r < 60000000000 := by omega
  have mb : 1 ≤ m ∧ m ≤ 1000000000 := by omega
  obtain ⟨m1, m2⟩ := mb
  have tm0 : decide (0 < m) = true := by simp; omega
  have m3 : ((m : Int) == 0) = false := by rw [beq_eq_false_iff_ne]; omega
  obtain ⟨g, hg⟩ : ∃ g, g = m % 60 := ⟨_, rfl⟩
  have b5 : (m : Int) % 60 = (g : Int) := by omega
  have gb : g < 60 := by omega
  have l2 := dec_len g (by omega)
  have m4 : 60 ≤ m := by omega
  have tm60 : decide ((m : Int) < 60) = false := by simp; omega
  obtain ⟨q, hq⟩ : ∃ q, q = m / 60 := ⟨_, rfl⟩
  have b6 : IntKind.u64.wrap ((m : Int) / 60) = (q : Int) := by rw [IntKind.wrap_u64]; omega
  have tq0 : decide (0 < q) = true := by simp; omega
  have qb : 1 ≤ q := by omega
  have qb2 : q ≤ 100000000 := by omega
  have l3 := dec_len q (by omega)
  have Hr := Lib.hid hr
  have Hm := Lib.hid hm
  have Hg := Lib.hid hg
  have Hq := Lib.hid hq
  clear hr hm hg hq
  have fin : lenPos n = decDigits q ++ [104] ++ (decDigits g ++ [109] ++ (fracText r 9 ++ [115])) := by unfold lenPos; rw [if_neg (by omega), if_neg (by omega), if_neg (by omega)]; simp only [← Hr.out, ← Hm.out, ← Hg.out, ← Hq.out]; rw [if_neg (by omega), if_neg (by omega)]
  have Fin := Lib.hid fin
  clear fin
  have t1000 : decide ((n : Int) < 1000) = false := by simp; omega
  have t1000000 : decide ((n : Int) < 1000000) = false := by simp; omega
  have t1000000000 : decide ((n : Int) < 1000000000) = false := by simp; omega
  have tneg : decide (-(n : Int) < 0) = true := by simp; omega
  have tneg' : decide (0 < n) = true := by simp; omega
  have H0 := Lib.hid h0
  have H1 := Lib.hid h1
  have C := Lib.hid c0
  clear h0 h1 c0
  have RB : r < 18446744073709551616 := by omega
  have RB' := Lib.hid RB
  clear rb RB
  have GB : g < 18446744073709551616 := by omega
  have GB' := Lib.hid GB
  clear m1 m2 gb GB m4
  have QB : q < 18446744073709551616 := by omega
  have QB' := Lib.hid QB
  clear qb qb2 QB
  go_enter Tryd.func6, Tryd.ntmps6
  go_wp2_with fail
  go_at_call 13
  refine (f13 r 9 1000000000 (by decide) RB'.out (by omega) (by omega) _ (by assumption)).mono ?_
  rintro e w1 ⟨rfl, x1, E1⟩
  go_wp2_with fail
  go_at_call 12
  refine (fu g GB'.out _ (by assumption)).mono ?_
  rintro e w2 ⟨rfl, x2, E2⟩
  go_wp2_with fail
  go_at_call 12
  refine (fu q QB'.out _ (by assumption)).mono ?_
  rintro e w3 ⟨rfl, x3, E3⟩
  go_wp2_with fail
  go_ret
  refine ⟨ret_bytes ?_, x1.trans (x2.trans x3), E3⟩
  rw [lenText_neg n H0.out, Fin.out]
  apply ByteArray.ext
  simp [ByteArray.data_append]
set_option maxHeartbeats 1000000 in
set_option maxRecDepth 100000 in
theorem strPos_ns (n : Nat) (h0 : 0 < n) (h1 : n ≤ 1000000000000000000) (c : n < 1000) (w : World) (hE : Env w) :
    Calls Tryd.prog 19 #[.int .i64 ((n : Int))] w fun e w' => e = .returned (.string ⟨(lenText ((n : Int))).toArray⟩) ∧ Ext w w' ∧ Env w' := by
  have a1 : IntKind.u64.wrap (n : Int) = (n : Int) := by rw [IntKind.wrap_u64]; omega
  have a3 : ((n : Int) == 0) = false := by rw [beq_eq_false_iff_ne]; omega
  have l1 := dec_len n (by omega)
  have fin : lenPos n = decDigits n ++ [110, 115] := by unfold lenPos; rw [if_pos c]
  have Fin := Lib.hid fin
  clear fin
  have t1000 : decide ((n : Int) < 1000) = true := by simp; omega
  have t1000000 : decide ((n : Int) < 1000000) = true := by simp; omega
  have t1000000000 : decide ((n : Int) < 1000000000) = true := by simp; omega
  have tneg : decide ((n : Int) < 0) = false := by simp
  have H0 := Lib.hid h0
  have H1 := Lib.hid h1
  have C := Lib.hid c
  clear h0 h1 c
  go_enter Tryd.func19, Tryd.ntmps19
  go_wp2_with fail
  go_at_call 12
  refine (fu n (Nat.lt_of_le_of_lt H1.out (by decide)) _ (by assumption)).mono ?_
  rintro e w1 ⟨rfl, x1, E1⟩
  go_wp2_with fail
  go_ret
  refine ⟨ret_bytes ?_, x1, E1⟩
  rw [lenText_pos n H0.out, Fin.out]
  apply ByteArray.ext
  simp [ByteArray.data_append]
set_option maxHeartbeats 1000000 in
set_option maxRecDepth 100000 in
theorem strPos_us (n : Nat) (h0 : 0 < n) (h1 : n ≤ 1000000000000000000) (c0 : 1000 ≤ n) (c : n < 1000000) (w : World) (hE : Env w) :
    Calls Tryd.prog 19 #[.int .i64 ((n : Int))] w fun e w' => e = .returned (.string ⟨(lenText ((n : Int))).toArray⟩) ∧ Ext w w' ∧ Env w' := by
  have a1 : IntKind.u64.wrap (n : Int) = (n : Int) := by rw [IntKind.wrap_u64]; omega
  have a3 : ((n : Int) == 0) = false := by rw [beq_eq_false_iff_ne]; omega
  have l1 := fracText_length n 3 (by omega) (by omega)
  have fin : lenPos n = fracText n 3 ++ [194, 181, 115] := by unfold lenPos; rw [if_neg (by omega), if_pos c]
  have Fin := Lib.hid fin
  clear fin
  have t1000 : decide ((n : Int) < 1000) = false := by simp; omega
  have t1000000 : decide ((n : Int) < 1000000) = true := by simp; omega
  have t1000000000 : decide ((n : Int) < 1000000000) = true := by simp; omega
  have tneg : decide ((n : Int) < 0) = false := by simp
  have H0 := Lib.hid h0
  have H1 := Lib.hid h1
  have C := Lib.hid c
  clear h0 h1 c c0
  go_enter Tryd.func19, Tryd.ntmps19
  go_wp2_with fail
  go_at_call 23
  refine (f23 n 3 1000 (by decide) (Nat.lt_of_le_of_lt H1.out (by decide)) (by omega) (by omega) _ (by assumption)).mono ?_
  rintro e w1 ⟨rfl, x1, E1⟩
  go_wp2_with fail
  go_ret
  refine ⟨ret_bytes ?_, x1, E1⟩
  rw [lenText_pos n H0.out, Fin.out]
  apply ByteArray.ext
  simp [ByteArray.data_append]
set_option maxHeartbeats 1000000 in
set_option maxRecDepth 100000 in
theorem strPos_ms (n : Nat) (h0 : 0 < n) (h1 : n ≤ 1000000000000000000) (c0 : 1000000 ≤ n) (c : n < 1000000000) (w : World) (hE : Env w) :
    Calls Tryd.prog 19 #[.int .i64 ((n : Int))] w fun e w' => e = .returned (.string ⟨(lenText ((n : Int))).toArray⟩) ∧ Ext w w' ∧ Env w' := by
  have a1 : IntKind.u64.wrap (n : Int) = (n : Int) := by rw [IntKind.wrap_u64]; omega
  have a3 : ((n : Int) == 0) = false := by rw [beq_eq_false_iff_ne]; omega
  have l1 := fracText_length n 6 (by omega) (by omega)
  have fin : lenPos n = fracText n 6 ++ [109, 115] := by unfold lenPos; rw [if_neg (by omega), if_neg (by omega), if_pos c]
  have Fin := Lib.hid fin
  clear fin
  have t1000 : decide ((n : Int) < 1000) = false := by simp; omega
  have t1000000 : decide ((n : Int) < 1000000) = false := by simp; omega
  have t1000000000 : decide ((n : Int) < 1000000000) = true := by simp; omega
  have tneg : decide ((n : Int) < 0) = false := by simp
  have H0 := Lib.hid h0
  have H1 := Lib.hid h1
  have C := Lib.hid c
  clear h0 h1 c c0
  go_enter Tryd.func19, Tryd.ntmps19
  go_wp2_with fail
  go_at_call 23
  refine (f23 n 6 1000000 (by decide) (Nat.lt_of_le_of_lt H1.out (by decide)) (by omega) (by omega) _ (by assumption)).mono ?_
  rintro e w1 ⟨rfl, x1, E1⟩
  go_wp2_with fail
  go_ret
  refine ⟨ret_bytes ?_, x1, E1⟩
  rw [lenText_pos n H0.out, Fin.out]
  apply ByteArray.ext
  simp [ByteArray.data_append]
set_option maxHeartbeats 1000000 in
set_option maxRecDepth 100000 in
theorem strPos_s (n : Nat) (h0 : 0 < n) (h1 : n ≤ 1000000000000000000) (c0 : 1000000000 ≤ n) (c : n < 60000000000) (w : World) (hE : Env w) :
    Calls Tryd.prog 19 #[.int .i64 ((n : Int))] w fun e w' => e = .returned (.string ⟨(lenText ((n : Int))).toArray⟩) ∧ Ext w w' ∧ Env w' := by
  have a1 : IntKind.u64.wrap (n : Int) = (n : Int) := by rw [IntKind.wrap_u64]; omega
  have a3 : ((n : Int) == 0) = false := by rw [beq_eq_false_iff_ne]; omega
  obtain ⟨r, hr⟩ : ∃ r, r = n % 60000000000 := ⟨_, rfl⟩
  obtain ⟨m, hm⟩ : ∃ m, m = n / 60000000000 := ⟨_, rfl⟩
  have l1 := fracText_length r 9 (by omega) (by omega)
  obtain ⟨s, hs⟩ : ∃ s, s = n / 1000000000 := ⟨_, rfl⟩
  have b0 : IntKind.u64.wrap ((n : Int) / 1000000000) = (s : Int) := by rw [IntKind.wrap_u64]; omega
  have b2 : IntKind.u64.wrap ((s : Int) / 60) = (m : Int) := by rw [IntKind.wrap_u64]; omega
  obtain ⟨Pm, hPm⟩ : ∃ N : Int, N = (m : Int) * 60000000000 := ⟨_, rfl⟩
  have b3 : IntKind.u64.wrap ((m : Int) * 60000000000) = Pm := by rw [IntKind.wrap_u64]; omega
  have b4 : IntKind.u64.wrap ((n : Int) - Pm) = (r : Int) := by rw [IntKind.wrap_u64]; omega
  clear hPm
  have rb : r < 60000000000 := by omega
  have m0 : m = 0 := by omega
  have m1 : ((m : Int) == 0) = true := by rw [beq_iff_eq]; omega
  have m2 : decide (0 < m) = false := by simp; omega
  have M0 := Lib.hid m0
  clear m0
  have Hr := Lib.hid hr
  have Hm := Lib.hid hm
  have Hs := Lib.hid hs
  clear hr hm hs
  have fin : lenPos n = fracText r 9 ++ [115] := by unfold lenPos; rw [if_neg (by omega), if_neg (by omega), if_neg (by omega)]; simp only [← Hr.out, ← Hm.out]; rw [if_pos M0.out]
  have Fin := Lib.hid fin
  clear fin
  have t1000 : decide ((n : Int) < 1000) = false := by simp; omega
  have t1000000 : decide ((n : Int) < 1000000) = false := by simp; omega
  have t1000000000 : decide ((n : Int) < 1000000000) = false := by simp; omega
  have tneg : decide ((n : Int) < 0) = false := by simp
  have H0 := Lib.hid h0
  have H1 := Lib.hid h1
  have C := Lib.hid c
  clear h0 h1 c c0
  have RB : r < 18446744073709551616 := by omega
  have RB' := Lib.hid RB
  clear rb RB
  go_enter Tryd.func19, Tryd.ntmps19
  go_wp2_with fail
  go_at_call 23
  refine (f23 r 9 1000000000 (by decide) RB'.out (by omega) (by omega) _ (by assumption)).mono ?_
  rintro e w1 ⟨rfl, x1, E1⟩
  go_wp2_with fail
  go_ret
  refine ⟨ret_bytes ?_, x1, E1⟩
  rw [lenText_pos n H0.out, Fin.out]
  apply ByteArray.ext
  simp [ByteArray.data_append]
set_option maxHeartbeats 1000000 in
set_option maxRecDepth 100000 in
theorem strPos_m (n : Nat) (h0 : 0 < n) (h1 : n ≤ 1000000000000000000) (c0 : 60000000000 ≤ n) (c : n < 3600000000000) (w : World) (hE : Env w) :
    Calls Tryd.prog 19 #[.int .i64 ((n : Int))] w fun e w' => e = .returned (.string ⟨(lenText ((n : Int))).toArray⟩) ∧ Ext w w' ∧ Env w' := by
  have a1 : IntKind.u64.wrap (n : Int) = (n : Int) := by rw [IntKind.wrap_u64]; omega
  have a3 : ((n : Int) == 0) = false := by rw [beq_eq_false_iff_ne]; omega
  obtain ⟨r, hr⟩ : ∃ r, r = n % 60000000000 := ⟨_, rfl⟩
  obtain ⟨m, hm⟩ : ∃ m, m = n / 60000000000 := ⟨_, rfl⟩
  have l1 := fracText_length r 9 (by omega) (by omega)
  obtain ⟨s, hs⟩ : ∃ s, s = n / 1000000000 := ⟨_, rfl⟩
  have b0 : IntKind.u64.wrap ((n : Int) / 1000000000) = (s : Int) := by rw [IntKind.wrap_u64]; omega
  have b2 : IntKind.u64.wrap ((s : Int) / 60) = (m : Int) := by rw [IntKind.wrap_u64]; omega
  obtain ⟨Pm, hPm⟩ : ∃ N : Int, N = (m : Int) * 60000000000 := ⟨_, rfl⟩
  have b3 : IntKind.u64.wrap ((m : Int) * 60000000000) = Pm := by rw [IntKind.wrap_u64]; omega
  have b4 : IntKind.u64.wrap ((n : Int) - Pm) = (r : Int) := by rw [IntKind.wrap_u64]; omega
  clear hPm
  have rb : r < 60000000000 := by omega
  have mb : 1 ≤ m ∧ m ≤ 1000000000 := by omega
  obtain ⟨m1, m2⟩ := mb
  have tm0 : decide (0 < m) = true := by simp; omega
  have m3 : ((m : Int) == 0) = false := by rw [beq_eq_false_iff_ne]; omega
  obtain ⟨g, hg⟩ : ∃ g, g = m % 60 := ⟨_, rfl⟩
  have b5 : (m : Int) % 60 = (g : Int) := by omega
  have gb : g < 60 := by omega
  have l2 := dec_len g (by omega)
  have m4 : m < 60 := by omega
  have tm60 : decide ((m : Int) < 60) = true := by simp; omega
  have b6 : IntKind.u64.wrap ((m : Int) / 60) = 0 := by rw [IntKind.wrap_u64]; omega
  have Hr := Lib.hid hr
  have Hm := Lib.hid hm
  have Hs := Lib.hid hs
  have Hg := Lib.hid hg
  clear hr hm hs hg
  have fin : lenPos n = decDigits g ++ [109] ++ (fracText r 9 ++ [115]) := by unfold lenPos; rw [if_neg (by omega), if_neg (by omega), if_neg (by omega)]; simp only [← Hr.out, ← Hm.out, ← Hg.out]; rw [if_neg (by omega), if_pos m4]
  have Fin := Lib.hid fin
  clear fin
  have t1000 : decide ((n : Int) < 1000) = false := by simp; omega
  have t1000000 : decide ((n : Int) < 1000000) = false := by simp; omega
  have t1000000000 : decide ((n : Int) < 1000000000) = false := by simp; omega
  have tneg : decide ((n : Int) < 0) = false := by simp
  have H0 := Lib.hid h0
  have H1 := Lib.hid h1
  have C := Lib.hid c
  clear h0 h1 c c0
  have RB : r < 18446744073709551616 := by omega
  have RB' := Lib.hid RB
  clear rb RB
  have GB : g < 18446744073709551616 := by omega
  have GB' := Lib.hid GB
  clear m1 m2 gb GB m4
  go_enter Tryd.func19, Tryd.ntmps19
  go_wp2_with fail
  go_at_call 23
  refine (f23 r 9 1000000000 (by decide) RB'.out (by omega) (by omega) _ (by assumption)).mono ?_
  rintro e w1 ⟨rfl, x1, E1⟩
  go_wp2_with fail
  go_at_call 12
  refine (fu g GB'.out _ (by assumption)).mono ?_
  rintro e w2 ⟨rfl, x2, E2⟩
  go_wp2_with fail
  go_ret
  refine ⟨ret_bytes ?_, x1.trans x2, E2⟩
  rw [lenText_pos n H0.out, Fin.out]
  apply ByteArray.ext
  simp [ByteArray.data_append]
set_option maxHeartbeats 1000000 in
set_option maxRecDepth 100000 in
theorem strPos_h (n : Nat) (h0 : 0 < n) (h1 : n ≤ 1000000000000000000) (c0 : 3600000000000 ≤ n) (w : World) (hE : Env w) :
    Calls Tryd.prog 19 #[.int .i64 ((n : Int))] w fun e w' => e = .returned (.string ⟨(lenText ((n : Int))).toArray⟩) ∧ Ext w w' ∧ Env w' := by
  have a1 : IntKind.u64.wrap (n : Int) = (n : Int) := by rw [IntKind.wrap_u64]; omega
  have a3 : ((n : Int) == 0) = false := by rw [beq_eq_false_iff_ne]; omega
  obtain ⟨r, hr⟩ : ∃ r, r = n % 60000000000 := ⟨_, rfl⟩
  obtain ⟨m, hm⟩ : ∃ m, m = n / 60000000000 := ⟨_, rfl⟩
  have l1 := fracText_length r 9 (by omega) (by omega)
  obtain ⟨s, hs⟩ : ∃ s, s = n / 1000000000 := ⟨_, rfl⟩
  have b0 : IntKind.u64.wrap ((n : Int) / 1000000000) = (s : Int) := by rw [IntKind.wrap_u64]; omega
  have b2 : IntKind.u64.wrap ((s : Int) / 60) = (m : Int) := by rw [IntKind.wrap_u64]; omega
  obtain ⟨Pm, hPm⟩ : ∃ N : Int, N = (m : Int) * 60000000000 := ⟨_, rfl⟩
  have b3 : IntKind.u64.wrap ((m : Int) * 60000000000) = Pm := by rw [IntKind.wrap_u64]; omega
  have b4 : IntKind.u64.wrap ((n : Int) - Pm) = (r : Int) := by rw [IntKind.wrap_u64]; omega
  clear hPm
  have rb : r < 60000000000 := by omega
  have mb : 1 ≤ m ∧ m ≤ 1000000000 := by omega
  obtain ⟨m1, m2⟩ := mb
  have tm0 : decide (0 < m) = true := by simp; omega
  have m3 : ((m : Int) == 0) = false := by rw [beq_eq_false_iff_ne]; omega
  obtain ⟨g, hg⟩ : ∃ g, g = m % 60 := ⟨_, rfl⟩
  have b5 : (m : Int) % 60 = (g : Int) := by omega
  have gb : g < 60 := by omega
  have l2 := dec_len g (by omega)
  have m4 : 60 ≤ m := by omega
  have tm60 : decide ((m : Int) < 60) = false := by simp; omega
  obtain ⟨q, hq⟩ : ∃ q, q = m / 60 := ⟨_, rfl⟩
  have b6 : IntKind.u64.wrap ((m : Int) / 60) = (q : Int) := by rw [IntKind.wrap_u64]; omega
  have tq0 : decide (0 < q) = true := by simp; omega
  have qb : 1 ≤ q := by omega
  have qb2 : q ≤ 100000000 := by omega
  have l3 := dec_len q (by omega)
  have Hr := Lib.hid hr
  have Hm := Lib.hid hm
  have Hs := Lib.hid hs
  have Hg := Lib.hid hg
  have Hq := Lib.hid hq
  clear hr hm hs hg hq
  have fin : lenPos n = decDigits q ++ [104] ++ (decDigits g ++ [109] ++ (fracText r 9 ++ [115])) := by unfold lenPos; rw [if_neg (by omega), if_neg (by omega), if_neg (by omega)]; simp only [← Hr.out, ← Hm.out, ← Hg.out, ← Hq.out]; rw [if_neg (by omega), if_neg (by omega)]
  have Fin := Lib.hid fin
  clear fin
  have t1000 : decide ((n : Int) < 1000) = false := by simp; omega
  have t1000000 : decide ((n : Int) < 1000000) = false := by simp; omega
  have t1000000000 : decide ((n : Int) < 1000000000) = false := by simp; omega
  have tneg : decide ((n : Int) < 0) = false := by simp
  have H0 := Lib.hid h0
  have H1 := Lib.hid h1
  have C := Lib.hid c0
  clear h0 h1 c0
  have RB : r < 18446744073709551616 := by omega
  have RB' := Lib.hid RB
  clear rb RB
  have GB : g < 18446744073709551616 := by omega
  have GB' := Lib.hid GB
  clear m1 m2 gb GB m4
  have QB : q < 18446744073709551616 := by omega
  have QB' := Lib.hid QB
  clear qb qb2 QB
  go_enter Tryd.func19, Tryd.ntmps19
  go_wp2_with fail
  go_at_call 23
  refine (f23 r 9 1000000000 (by decide) RB'.out (by omega) (by omega) _ (by assumption)).mono ?_
  rintro e w1 ⟨rfl, x1, E1⟩
  go_wp2_with fail
  go_at_call 12
  refine (fu g GB'.out _ (by assumption)).mono ?_
  rintro e w2 ⟨rfl, x2, E2⟩
  go_wp2_with fail
  go_at_call 12
  refine (fu q QB'.out _ (by assumption)).mono ?_
  rintro e w3 ⟨rfl, x3, E3⟩
  go_wp2_with fail
  go_ret
  refine ⟨ret_bytes ?_, x1.trans (x2.trans x3), E3⟩
  rw [lenText_pos n H0.out, Fin.out]
  apply ByteArray.ext
  simp [ByteArray.data_append]
set_option maxHeartbeats 1000000 in
set_option maxRecDepth 100000 in
theorem strNeg_ns (n : Nat) (h0 : 0 < n) (h1 : n ≤ 1000000000000000000) (c : n < 1000) (w : World) (hE : Env w) :
    Calls Tryd.prog 19 #[.int .i64 (-(n : Int))] w fun e w' => e = .returned (.string ⟨(lenText (-(n : Int))).toArray⟩) ∧ Ext w w' ∧ Env w' := by
  obtain ⟨N, hN⟩ : ∃ N : Int, N = 18446744073709551616 - (n : Int) := ⟨_, rfl⟩
  have a1 : IntKind.u64.wrap (-(n : Int)) = N := by rw [IntKind.wrap_u64]; omega
  have a2 : IntKind.u64.wrap (-N) = (n : Int) := by rw [IntKind.wrap_u64]; omega
  clear hN
  have a3 : (-(n : Int) == 0) = false := by rw [beq_eq_false_iff_ne]; omega
  have a3' : ((n : Int) == 0) = false := by rw [beq_eq_false_iff_ne]; omega
  have l1 := dec_len n (by omega)
  have fin : lenPos n = decDigits n ++ [110, 115] := by unfold lenPos; rw [if_pos c]
  have Fin := Lib.hid fin
  clear fin
  have t1000 : decide ((n : Int) < 1000) = true := by simp; omega
  have t1000000 : decide ((n : Int) < 1000000) = true := by simp; omega
  have t1000000000 : decide ((n : Int) < 1000000000) = true := by simp; omega
  have tneg : decide (-(n : Int) < 0) = true := by simp; omega
  have tneg' : decide (0 < n) = true := by simp; omega
  have H0 := Lib.hid h0
  have H1 := Lib.hid h1
  have C := Lib.hid c
  clear h0 h1 c
  go_enter Tryd.func19, Tryd.ntmps19
  go_wp2_with fail
  go_at_call 12
  refine (fu n (Nat.lt_of_le_of_lt H1.out (by decide)) _ (by assumption)).mono ?_
  rintro e w1 ⟨rfl, x1, E1⟩
  go_wp2_with fail
  go_ret
  refine ⟨ret_bytes ?_, x1, E1⟩
  rw [lenText_neg n H0.out, Fin.out]
  apply ByteArray.ext
  simp [ByteArray.data_append]
set_option maxHeartbeats 1000000 in
set_option maxRecDepth 100000 in
theorem strNeg_us (n : Nat) (h0 : 0 < n) (h1 : n ≤ 1000000000000000000) (c0 : 1000 ≤ n) (c : n < 1000000) (w : World) (hE : Env w) :
    Calls Tryd.prog 19 #[.int .i64 (-(n : Int))] w fun e w' => e = .returned (.string ⟨(lenText (-(n : Int))).toArray⟩) ∧ Ext w w' ∧ Env w' := by
  obtain ⟨N, hN⟩ : ∃ N : Int, N = 18446744073709551616 - (n : Int) := ⟨_, rfl⟩
  have a1 : IntKind.u64.wrap (-(n : Int)) = N := by rw [IntKind.wrap_u64]; omega
  have a2 : IntKind.u64.wrap (-N) = (n : Int) := by rw [IntKind.wrap_u64]; omega
  clear hN
  have a3 : (-(n : Int) == 0) = false := by rw [beq_eq_false_iff_ne]; omega
  have a3' : ((n : Int) == 0) = false := by rw [beq_eq_false_iff_ne]; omega
  have l1 := fracText_length n 3 (by omega) (by omega)
  have fin : lenPos n = fracText n 3 ++ [194, 181, 115] := by unfold lenPos; rw [if_neg (by omega), if_pos c]
  have Fin := Lib.hid fin
  clear fin
  have t1000 : decide ((n : Int) < 1000) = false := by simp; omega
  have t1000000 : decide ((n : Int) < 1000000) = true := by simp; omega
  have t1000000000 : decide ((n : Int) < 1000000000) = true := by simp; omega
  have tneg : decide (-(n : Int) < 0) = true := by simp; omega
  have tneg' : decide (0 < n) = true := by simp; omega
  have H0 := Lib.hid h0
  have H1 := Lib.hid h1
  have C := Lib.hid c
  clear h0 h1 c c0
  go_enter Tryd.func19, Tryd.ntmps19
  go_wp2_with fail
  go_at_call 23
  refine (f23 n 3 1000 (by decide) (Nat.lt_of_le_of_lt H1.out (by decide)) (by omega) (by omega) _ (by assumption)).mono ?_
  rintro e w1 ⟨rfl, x1, E1⟩
  go_wp2_with fail
  go_ret
  refine ⟨ret_bytes ?_, x1, E1⟩
  rw [lenText_neg n H0.out, Fin.out]
  apply ByteArray.ext
  simp [ByteArray.data_append]
set_option maxHeartbeats 1000000 in
set_option maxRecDepth 100000 in
theorem strNeg_ms (n : Nat) (h0 : 0 < n) (h1 : n ≤ 1000000000000000000) (c0 : 1000000 ≤ n) (c : n < 1000000000) (w : World) (hE : Env w) :
    Calls Tryd.prog 19 #[.int .i64 (-(n : Int))] w fun e w' => e = .returned (.string ⟨(lenText (-(n : Int))).toArray⟩) ∧ Ext w w' ∧ Env w' := by
  obtain ⟨N, hN⟩ : ∃ N : Int, N = 18446744073709551616 - (n : Int) := ⟨_, rfl⟩
  have a1 : IntKind.u64.wrap (-(n : Int)) = N := by rw [IntKind.wrap_u64]; omega
  have a2 : IntKind.u64.wrap (-N) = (n : Int) := by rw [IntKind.wrap_u64]; omega
  clear hN
  have a3 : (-(n : Int) == 0) = false := by rw [beq_eq_false_iff_ne]; omega
  have a3' : ((n : Int) == 0) = false := by rw [beq_eq_false_iff_ne]; omega
  have l1 := fracText_length n 6 (by omega) (by omega)
  have fin : lenPos n = fracText n 6 ++ [109, 115] := by unfold lenPos; rw [if_neg (by omega), if_neg (by omega), if_pos c]
  have Fin := Lib.hid fin
  clear fin
  have t1000 : decide ((n : Int) < 1000) = false := by simp; omega
  have t1000000 : decide ((n : Int) < 1000000) = false := by simp; omega
  have t1000000000 : decide ((n : Int) < 1000000000) = true := by simp; omega
  have tneg : decide (-(n : Int) < 0) = true := by simp; omega
  have tneg' : decide (0 < n) = true := by simp; omega
  have H0 := Lib.hid h0
  have H1 := Lib.hid h1
  have C := Lib.hid c
  clear h0 h1 c c0
  go_enter Tryd.func19, Tryd.ntmps19
  go_wp2_with fail
  go_at_call 23
  refine (f23 n 6 1000000 (by decide) (Nat.lt_of_le_of_lt H1.out (by decide)) (by omega) (by omega) _ (by assumption)).mono ?_
  rintro e w1 ⟨rfl, x1, E1⟩
  go_wp2_with fail
  go_ret
  refine ⟨ret_bytes ?_, x1, E1⟩
  rw [lenText_neg n H0.out, Fin.out]
  apply ByteArray.ext
  simp [ByteArray.data_append]
set_option maxHeartbeats 1000000 in
set_option maxRecDepth 100000 in
theorem strNeg_s (n : Nat) (h0 : 0 < n) (h1 : n ≤ 1000000000000000000) (c0 : 1000000000 ≤ n) (c : n < 60000000000) (w : World) (hE : Env w) :
    Calls Tryd.prog 19 #[.int .i64 (-(n : Int))] w fun e w' => e = .returned (.string ⟨(lenText (-(n : Int))).toArray⟩) ∧ Ext w w' ∧ Env w' := by
  obtain ⟨N, hN⟩ : ∃ N : Int, N = 18446744073709551616 - (n : Int) := ⟨_, rfl⟩
  have a1 : IntKind.u64.wrap (-(n : Int)) = N := by rw [IntKind.wrap_u64]; omega
  have a2 : IntKind.u64.wrap (-N) = (n : Int) := by rw [IntKind.wrap_u64]; omega
  clear hN
  have a3 : (-(n : Int) == 0) = false := by rw [beq_eq_false_iff_ne]; omega
  have a3' : ((n : Int) == 0) = false := by rw [beq_eq_false_iff_ne]; omega
  obtain ⟨r, hr⟩ : ∃ r, r = n % 60000000000 := ⟨_, rfl⟩
  obtain ⟨m, hm⟩ : ∃ m, m = n / 60000000000 := ⟨_, rfl⟩
  have l1 := fracText_length r 9 (by omega) (by omega)
  obtain ⟨s, hs⟩ : ∃ s, s = n / 1000000000 := ⟨_, rfl⟩
  have b0 : IntKind.u64.wrap ((n : Int) / 1000000000) = (s : Int) := by rw [IntKind.wrap_u64]; omega
  have b2 : IntKind.u64.wrap ((s : Int) / 60) = (m : Int) := by rw [IntKind.wrap_u64]; omega
  obtain ⟨Pm, hPm⟩ : ∃ N : Int, N = (m : Int) * 60000000000 := ⟨_, rfl⟩
  have b3 : IntKind.u64.wrap ((m : Int) * 60000000000) = Pm := by rw [IntKind.wrap_u64]; omega
  have b4 : IntKind.u64.wrap ((n : Int) - Pm) = (r : Int) := by rw [IntKind.wrap_u64]; omega
  clear hPm
  have rb : r < 60000000000 := by omega
  have m0 : m = 0 := by omega
  have m1 : ((m : Int) == 0) = true := by rw [beq_iff_eq]; omega
  have m2 : decide (0 < m) = false := by simp; omega
  have M0 := Lib.hid m0
  clear m0
  have Hr := Lib.hid hr
  have Hm := Lib.hid hm
  have Hs := Lib.hid hs
  clear hr hm hs
  have fin : lenPos n = fracText r 9 ++ [115] := by unfold lenPos; rw [if_neg (by omega), if_neg (by omega), if_neg (by omega)]; simp only [← Hr.out, ← Hm.out]; rw [if_pos M0.out]
  have Fin := Lib.hid fin
  clear fin
  have t1000 : decide ((n : Int) < 1000) = false := by simp; omega
  have t1000000 : decide ((n : Int) < 1000000) = false := by simp; omega
  have t1000000000 : decide ((n : Int) < 1000000000) = false := by simp; omega
  have tneg : decide (-(n : Int) < 0) = true := by simp; omega
  have tneg' : decide (0 < n) = true := by simp; omega
  have H0 := Lib.hid h0
  have H1 := Lib.hid h1
  have C := Lib.hid c
  clear h0 h1 c c0
  have RB : r < 18446744073709551616 := by omega
  have RB' := Lib.hid RB
  clear rb RB
  go_enter Tryd.func19, Tryd.ntmps19
  go_wp2_with fail
  go_at_call 23
  refine (f23 r 9 1000000000 (by decide) RB'.out (by omega) (by omega) _ (by assumption)).mono ?_
  rintro e w1 ⟨rfl, x1, E1⟩
  go_wp2_with fail
  go_ret
  refine ⟨ret_bytes ?_, x1, E1⟩
  rw [lenText_neg n H0.out, Fin.out]
  apply ByteArray.ext
  simp [ByteArray.data_append]
set_option maxHeartbeats 1000000 in
set_option maxRecDepth 100000 in
theorem strNeg_m (n : Nat) (h0 : 0 < n) (h1 : n ≤ 1000000000000000000) (c0 : 60000000000 ≤ n) (c : n < 3600000000000) (w : World) (hE : Env w) :
    Calls Tryd.prog 19 #[.int .i64 (-(n : Int))] w fun e w' => e = .returned (.string ⟨(lenText (-(n : Int))).toArray⟩) ∧ Ext w w' ∧ Env w' := by
  obtain ⟨N, hN⟩ : ∃ N : Int, N = 18446744073709551616 - (n : Int) := ⟨_, rfl⟩
  have a1 : IntKind.u64.wrap (-(n : Int)) = N := by rw [IntKind.wrap_u64]; omega
  have a2 : IntKind.u64.wrap (-N) = (n : Int) := by rw [IntKind.wrap_u64]; omega
  clear hN
  have a3 : (-(n : Int) == 0) = false := by rw [beq_eq_false_iff_ne]; omega
  have a3' : ((n : Int) == 0) = false := by rw [beq_eq_false_iff_ne]; omega
  obtain ⟨r, hr⟩ : ∃ r, r = n % 60000000000 := ⟨_, rfl⟩
  obtain ⟨m, hm⟩ : ∃ m, m = n / 60000000000 := ⟨_, rfl⟩
  have l1 := fracText_length r 9 (by omega) (by omega)
  obtain ⟨s, hs⟩ : ∃ s, s = n / 1000000000 := ⟨_, rfl⟩
  have b0 : IntKind.u64.wrap ((n : Int) / 1000000000) = (s : Int) := by rw [IntKind.wrap_u64]; omega
  have b2 : IntKind.u64.wrap ((s : Int) / 60) = (m : Int) := by rw [IntKind.wrap_u64]; omega
  obtain ⟨Pm, hPm⟩ : ∃ N : Int, N = (m : Int) * 60000000000 := ⟨_, rfl⟩
  have b3 : IntKind.u64.wrap ((m : Int) * 60000000000) = Pm := by rw [IntKind.wrap_u64]; omega
  have b4 : IntKind.u64.wrap ((n : Int) - Pm) = (r : Int) := by rw [IntKind.wrap_u64]; omega
  clear hPm
  have rb : r < 60000000000 := by omega
  have mb : 1 ≤ m ∧ m ≤ 1000000000 := by omega
  obtain ⟨m1, m2⟩ := mb
  have tm0 : decide (0 < m) = true := by simp; omega
  have m3 : ((m : Int) == 0) = false := by rw [beq_eq_false_iff_ne]; omega
  obtain ⟨g, hg⟩ : ∃ g, g = m % 60 := ⟨_, rfl⟩
  have b5 : (m : Int) % 60 = (g : Int) := by omega
  have gb : g < 60 := by omega
  have l2 := dec_len g (by omega)
  have m4 : m < 60 := by omega
  have tm60 : decide ((m : Int) < 60) = true := by simp; omega
  have b6 : IntKind.u64.wrap ((m : Int) / 60) = 0 := by rw [IntKind.wrap_u64]; omega
  have Hr := Lib.hid hr
  have Hm := Lib.hid hm
  have Hs := Lib.hid hs
  have Hg := Lib.hid hg
  clear hr hm hs hg
  have fin : lenPos n = decDigits g ++ [109] ++ (fracText r 9 ++ [115]) := by unfold lenPos; rw [if_neg (by omega), if_neg (by omega), if_neg (by omega)]; simp only [← Hr.out, ← Hm.out, ← Hg.out]; rw [if_neg (by omega), if_pos m4]
  have Fin := Lib.hid fin
  clear fin
  have t1000 : decide ((n : Int) < 1000) = false := by simp; omega
  have t1000000 : decide ((n : Int) < 1000000) = false := by simp; omega
  have t1000000000 : decide ((n : Int) < 1000000000) = false := by simp; omega
  have tneg : decide (-(n : Int) < 0) = true := by simp; omega
  have tneg' : decide (0 < n) = true := by simp; omega
  have H0 := Lib.hid h0
  have H1 := Lib.hid h1
  have C := Lib.hid c
  clear h0 h1 c c0
  have RB : r < 18446744073709551616 := by omega
  have RB' := Lib.hid RB
  clear rb RB
  have GB : g < 18446744073709551616 := by omega
  have GB' := Lib.hid GB
  clear m1 m2 gb GB m4
  go_enter Tryd.func19, Tryd.ntmps19
  go_wp2_with fail
  go_at_call 23
  refine (f23 r 9 1000000000 (by decide) RB'.out (by omega) (by omega) _ (by assumption)).mono ?_
  rintro e w1 ⟨rfl, x1, E1⟩
  go_wp2_with fail
  go_at_call 12
  refine (fu g GB'.out _ (by assumption)).mono ?_
  rintro e w2 ⟨rfl, x2, E2⟩
  go_wp2_with fail
  go_ret
  refine ⟨ret_bytes ?_, x1.trans x2, E2⟩
  rw [lenText_neg n H0.out, Fin.out]
  apply ByteArray.ext
  simp [ByteArray.data_append]
set_option maxHeartbeats 1000000 in
set_option maxRecDepth 100000 in
theorem strNeg_h (n : Nat) (h0 : 0 < n) (h1 : n ≤ 1000000000000000000) (c0 : 3600000000000 ≤ n) (w : World) (hE : Env w) :
    Calls Tryd.prog 19 #[.int .i64 (-(n : Int))] w fun e w' => e = .returned (.string ⟨(lenText (-(n : Int))).toArray⟩) ∧ Ext w w' ∧ Env w' := by
  obtain ⟨N, hN⟩ : ∃ N : Int, N = 18446744073709551616 - (n : Int) := ⟨_, rfl⟩
  have a1 : IntKind.u64.wrap (-(n : Int)) = N := by rw [IntKind.wrap_u64]; omega
  have a2 : IntKind.u64.wrap (-N) = (n : Int) := by rw [IntKind.wrap_u64]; omega
  clear hN
  have a3 : (-(n : Int) == 0) = false := by rw [beq_eq_false_iff_ne]; omega
  have a3' : ((n : Int) == 0) = false := by rw [beq_eq_false_iff_ne]; omega
  obtain ⟨r, hr⟩ : ∃ r, r = n % 60000000000 := ⟨_, rfl⟩
  obtain ⟨m, hm⟩ : ∃ m, m = n / 60000000000 := ⟨_, rfl⟩
  have l1 := fracText_length r 9 (by omega) (by omega)
  obtain ⟨s, hs⟩ : ∃ s, s = n / 1000000000 := ⟨_, rfl⟩
  have b0 : IntKind.u64.wrap ((n : Int) / 1000000000) = (s : Int) := by rw [IntKind.wrap_u64]; omega
  have b2 : IntKind.u64.wrap ((s : Int) / 60) = (m : Int) := by rw [IntKind.wrap_u64]; omega
  obtain ⟨Pm, hPm⟩ : ∃ N : Int, N = (m : Int) * 60000000000 := ⟨_, rfl⟩
  have b3 : IntKind.u64.wrap ((m : Int) * 60000000000) = Pm := by rw [IntKind.wrap_u64]; omega
  have b4 : IntKind.u64.wrap ((n : Int) - Pm) = (r : Int) := by rw [IntKind.wrap_u64]; omega
  clear hPm
  have rb : r < 60000000000 := by omega
  have mb : 1 ≤ m ∧ m ≤ 1000000000 := by omega
  obtain ⟨m1, m2⟩ := mb
  have tm0 : decide (0 < m) = true := by simp; omega
  have m3 : ((m : Int) == 0) = false := by rw [beq_eq_false_iff_ne]; omega
  obtain ⟨g, hg⟩ : ∃ g, g = m % 60 := ⟨_, rfl⟩
  have b5 : (m : Int) % 60 = (g : Int) := by omega
  have gb : g < 60 := by omega
  have l2 := dec_len g (by omega)
  have m4 : 60 ≤ m := by omega
  have tm60 : decide ((m : Int) < 60) = false := by simp; omega
  obtain ⟨q, hq⟩ : ∃ q, q = m / 60 := ⟨_, rfl⟩
  have b6 : IntKind.u64.wrap ((m : Int) / 60) = (q : Int) := by rw [IntKind.wrap_u64]; omega
  have tq0 : decide (0 < q) = true := by simp; omega
  have qb : 1 ≤ q := by omega
  have qb2 : q ≤ 100000000 := by omega
  have l3 := dec_len q (by omega)
  have Hr := Lib.hid hr
  have Hm := Lib.hid hm
  have Hs := Lib.hid hs
  have Hg := Lib.hid hg
  have Hq := Lib.hid hq
  clear hr hm hs hg hq
  have fin : lenPos n = decDigits q ++ [104] ++ (decDigits g ++ [109] ++ (fracText r 9 ++ [115])) := by unfold lenPos; rw [if_neg (by omega), if_neg (by omega), if_neg (by omega)]; simp only [← Hr.out, ← Hm.out, ← Hg.out, ← Hq.out]; rw [if_neg (by omega), if_neg (by omega)]
  have Fin := Lib.hid fin
  clear fin
  have t1000 : decide ((n : Int) < 1000) = false := by simp; omega
  have t1000000 : decide ((n : Int) < 1000000) = false := by simp; omega
  have t1000000000 : decide ((n : Int) < 1000000000) = false := by simp; omega
  have tneg : decide (-(n : Int) < 0) = true := by simp; omega
  have tneg' : decide (0 < n) = true := by simp; omega
  have H0 := Lib.hid h0
  have H1 := Lib.hid h1
  have C := Lib.hid c0
  clear h0 h1 c0
  have RB : r < 18446744073709551616 := by omega
  have RB' := Lib.hid RB
  clear rb RB
  have GB : g < 18446744073709551616 := by omega
  have GB' := Lib.hid GB
  clear m1 m2 gb GB m4
  have QB : q < 18446744073709551616 := by omega
  have QB' := Lib.hid QB
  clear qb qb2 QB
  go_enter Tryd.func19, Tryd.ntmps19
  go_wp2_with fail
  go_at_call 23
  refine (f23 r 9 1000000000 (by decide) RB'.out (by omega) (by omega) _ (by assumption)).mono ?_
  rintro e w1 ⟨rfl, x1, E1⟩
  go_wp2_with fail
  go_at_call 12
  refine (fu g GB'.out _ (by assumption)).mono ?_
  rintro e w2 ⟨rfl, x2, E2⟩
  go_wp2_with fail
  go_at_call 12
  refine (fu q QB'.out _ (by assumption)).mono ?_
  rintro e w3 ⟨rfl, x3, E3⟩
  go_wp2_with fail
  go_ret
  refine ⟨ret_bytes ?_, x1.trans (x2.trans x3), E3⟩
  rw [lenText_neg n H0.out, Fin.out]
  apply ByteArray.ext
  simp [ByteArray.data_append]
end Go.Proofs.YtmaffdhcmdhjfaaDoor
