/- quartz.zzFraction gives the text of a number of units with its fraction; its conditions: the table of powers of ten reads as laid. -/
import Derived.Test.YtmaffdhcmdhjfaaDoorFrac
import Derived.Deep.RegionWith
namespace Go.Proofs.YtmaffdhcmdhjfaaDoor
open Go.RowKit Go.Sort Go.Lib

theorem digit_str (d : Nat) (h : d < 10) : Utf8.encode (48 + (d : Int)) = ⟨([UInt8.ofNat (48 + d)] : List UInt8).toArray⟩ := by
  unfold Utf8.encode
  have hv : Utf8.valid (48 + (d : Int)) = true := by simp [Utf8.valid]; omega
  simp only [hv, if_true]
  have e : (48 + (d : Int)).toNat = 48 + d := by omega
  rw [e, if_pos (by omega)]

theorem pow10_bd (j : Nat) (h : j ≤ 9) : 10 ^ j ≤ 1000000000 := Nat.pow_le_pow_right (by decide) h

set_option maxHeartbeats 1600000 in
set_option maxRecDepth 100000 in
theorem zz_fraction (n k : Nat) (hn : n < 18446744073709551616) (hk : k ≤ 9) (hk1 : 1 ≤ k) (w : World) (henv : Env w) :
    Calls Tryd.prog 23 #[.int .u64 n, .int .u64 ((10 ^ k : Nat) : Int)] w fun e w' => e = .returned (.string ⟨(fracText n k).toArray⟩) ∧ Below w.heap.size w w' := by
  obtain ⟨u, hu⟩ : ∃ u, u = 10 ^ k := ⟨_, rfl⟩
  have hup : 1 ≤ u := by rw [hu]; exact Nat.pow_pos (by decide)
  have hu9 : u ≤ 1000000000 := by rw [hu]; exact Nat.pow_le_pow_right (by decide) hk
  rw [← hu]
  have Hu := Lib.hid hu
  clear hu
  obtain ⟨q, hq⟩ : ∃ q, q = n / u := ⟨_, rfl⟩
  obtain ⟨r, hr⟩ : ∃ r, r = n % u := ⟨_, rfl⟩
  have hqb : q < 18446744073709551616 := by rw [hq]; exact Nat.lt_of_le_of_lt (Nat.div_le_self _ _) hn
  have hrb : r < u := by rw [hr]; exact Nat.mod_lt _ hup
  have e1 : IntKind.u64.wrap ((n : Int) / (u : Int)) = (q : Int) := by
    rw [IntKind.wrap_u64, hq]; rw [← Int.natCast_ediv]; omega
  have e2 : (n : Int) % (u : Int) = (r : Int) := by rw [hr, Int.natCast_emod]
  have e3 : (n : Int).tmod (u : Int) = (r : Int) := by rw [Int.tmod_eq_emod_of_nonneg (by omega), e2]
  have Hq := Lib.hid hq
  have Hr := Lib.hid hr
  have hdl := dec_len q hqb
  clear hq hr
  by_cases hr0 : r = 0
  · subst hr0
    go_enter Tryd.func23, Tryd.ntmps23
    go_wp2_with fail
    go_region_with (go_at_call 12; refine (strconv_FormatUint q hqb _ henv.drew.tab).mono ?_; rintro e w1 ⟨rfl, hb1⟩)
    all_goals
      go_wp2_with fail
      go_ret
      refine ⟨?_, ((Below.refl _ _).drew.trans hb1)⟩
      exact ret_str (by unfold fracText; rw [← Hu.out, ← Hq.out, ← Hr.out, if_pos rfl, List.append_nil])
  · have hr1 : ((r : Int) == 0) = false := by rw [beq_eq_false_iff_ne]; omega
    go_enter Tryd.func23, Tryd.ntmps23
    go_wp2_with fail
    go_region_with (go_at_call 12; refine (strconv_FormatUint q hqb _ henv.drew.tab).mono ?_; rintro e w1 ⟨rfl, hb1⟩)
    all_goals
      go_wp2_with fail
      go_loop [1, 5, 6] (fun v1 v5 v6 => ∃ (j r' : Nat) (p : List UInt8), v1 = .int .u64 ((10 ^ j : Nat) : Int) ∧ v6 = .int .u64 (r' : Int) ∧ v5 = .string ⟨p.toArray⟩ ∧
          j ≤ k ∧ r' < 10 ^ j ∧ p.length + j ≤ 30 + k ∧ p ++ fracL j r' = (decDigits q ++ [46]) ++ fracL k r)
        (fun v1 _ _ => (RowKit.intOf v1).toNat)
      case atStart =>
        refine ⟨k, r, decDigits q ++ [46], by rw [Hu.out], rfl, ?_, Nat.le_refl _, by rw [← Hu.out]; exact hrb, by simp; omega, rfl⟩
        exact congrArg Value.string (ByteArray.mk_append_mk _ _)
      case round =>
        obtain ⟨j, r', p, rfl, rfl, rfl, hj, hr', hp, hf⟩ := hrel
        have Hf := Lib.hid hf
        clear hf
        by_cases h0 : r' = 0
        · subst h0
          go_wp2_with fail
          go_ret
          refine ⟨?_, ((Below.refl _ _).drew.trans hb1)⟩
          have hf := Hf.out
          rw [fracL_zero, List.append_nil] at hf
          exact ret_str (by rw [hf]; unfold fracText; rw [← Hu.out, ← Hq.out, ← Hr.out, if_neg hr0]; simp)
        · obtain ⟨i, rfl⟩ : ∃ i, j = i + 1 := by
            cases j with
            | zero => simp at hr'; omega
            | succ i => exact ⟨i, rfl⟩
          obtain ⟨V, hV⟩ : ∃ V, V = 10 ^ i := ⟨_, rfl⟩
          obtain ⟨U, hU⟩ : ∃ U, U = 10 ^ (i + 1) := ⟨_, rfl⟩
          have hUV : U = V * 10 := by rw [hU, hV, Nat.pow_succ]
          have hVp : 1 ≤ V := by rw [hV]; exact Nat.pow_pos (by decide)
          have hVb : V ≤ 1000000000 := by rw [hV]; exact pow10_bd i (by omega)
          obtain ⟨d, hd⟩ : ∃ d, d = r' / V := ⟨_, rfl⟩
          obtain ⟨r2, hr2⟩ : ∃ r2, r2 = r' % V := ⟨_, rfl⟩
          have hrU : r' < U := by rw [hU]; exact hr'
          have hd9 : d < 10 := by rw [hd, Nat.div_lt_iff_lt_mul (by omega)]; omega
          have hr2b : r2 < V := by rw [hr2]; exact Nat.mod_lt _ hVp
          have Hf2 : Hid ((p ++ [UInt8.ofNat (48 + d)]) ++ fracL i r2 = (decDigits q ++ [46]) ++ fracL k r) := by
            show _ = _
            rw [← Hf.out, fracL, if_neg h0, ← hV, ← hd, ← hr2]; simp
          have q1 : IntKind.u64.wrap ((U : Int) / 10) = (V : Int) := by rw [IntKind.wrap_u64]; omega
          have q2 : IntKind.u64.wrap ((r' : Int) / (V : Int)) = (d : Int) := by rw [IntKind.wrap_u64, hd, Int.natCast_ediv]; rw [← Int.natCast_ediv, ← hd]; omega
          have q3 : IntKind.u64.wrap (48 + (d : Int)) = 48 + (d : Int) := by rw [IntKind.wrap_u64]; omega
          have q4 : IntKind.i32.wrap (48 + (d : Int)) = 48 + (d : Int) := by rw [IntKind.wrap_i32]; omega
          have q5 := digit_str d hd9
          have q6 : (r' : Int) % (V : Int) = (r2 : Int) := by rw [hr2, Int.natCast_emod]
          have hr'p : 0 < r' := by omega
          rw [← hU]
          have HV := Lib.hid hV
          have HUV := Lib.hid hUV
          clear hd hr2 hr' Hf hV hU hUV
          go_wp2_with fail
          go_round
          case rel =>
            refine ⟨i, r2, p ++ [UInt8.ofNat (48 + d)], by rw [HV.out], by rw [q6], ?_, by omega, by rw [← HV.out]; exact hr2b, by simp; omega, Hf2.out⟩
            rw [← ByteArray.mk_append_mk]
            simp
          case measure => simp [RowKit.intOf]; have := HUV.out; omega
end Go.Proofs.YtmaffdhcmdhjfaaDoor
