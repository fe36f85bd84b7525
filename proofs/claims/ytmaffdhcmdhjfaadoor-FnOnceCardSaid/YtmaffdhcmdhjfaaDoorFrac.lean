/- spec.fraction and quartz.zzFraction give one and the same text for a number of units of a thousandth, a millionth and so on; its conditions: the table of powers of ten reads as laid. -/
import Derived.Test.YtmaffdhcmdhjfaaDoorNum
import Derived.Test.YtmaffdhcmdhjfaaDoorText
import Derived.BigQuiet
import Derived.Deep.QuietTactic
import Derived.WalkLawsBesides
import Derived.WalkSpells
import Derived.Lib.ItoaLen
namespace Go.Proofs.YtmaffdhcmdhjfaaDoor
open Go.RowKit Go.Sort Go.Lib

theorem dec_len (u : Nat) (h : u < 18446744073709551616) : (decDigits u).length ≤ 20 := by
  rw [decDigits_length]; exact nDigits_le20 u h

theorem frac_nil {n k : Nat} (h : stripZ [] = stripZ (padK k (n % 10 ^ k))) : fracText n k = decDigits (n / 10 ^ k) := by
  have h2 := (strip_pad k (n % 10 ^ k) (Nat.mod_lt _ (Nat.pow_pos (by decide)))).2
  rw [← h] at h2
  have : n % 10 ^ k = 0 := h2.1 rfl
  unfold fracText
  rw [if_pos this, List.append_nil]

theorem frac_cons {n k : Nat} {l : List UInt8} {a : UInt8} (ha : a ≠ 48) (h : stripZ (l ++ [a]) = stripZ (padK k (n % 10 ^ k))) :
    fracText n k = decDigits (n / 10 ^ k) ++ [46] ++ (l ++ [a]) := by
  have h2 := strip_pad k (n % 10 ^ k) (Nat.mod_lt _ (Nat.pow_pos (by decide)))
  rw [← h, stripZ_snoc l a ha] at h2
  have h0 : n % 10 ^ k ≠ 0 := fun h => by have := h2.2.2 h; simp at this
  unfold fracText
  rw [if_neg h0, ← h2.1]
  simp

theorem padK_length : ∀ (k r : Nat), (padK k r).length = k
  | 0, _ => rfl
  | k + 1, r => by simp [padK, padK_length k]

theorem ret_str {a b : List UInt8} (h : a = b) : Ending.returned (.string ⟨a.toArray⟩) = .returned (.string ⟨b.toArray⟩) := by rw [h]

/-- what the library's functions read -/
def Env (w : World) : Prop := Lib.TabIs Tryd.prog w "internal/strconv.uint64pow10" .u64 Lib.pow10Tab ∧ 2 ≤ w.heap.size

theorem Env.tab {w : World} (h : Env w) : Lib.TabIs Tryd.prog w "internal/strconv.uint64pow10" .u64 Lib.pow10Tab := h.1

theorem Env.below {w w' : World} (h : Env w) (hb : Below w.heap.size w w') : Env w' :=
  ⟨var?_below hb (g := 1) (by kernel_rfl) (by have := h.2; omega) h.1, by have := h.2; have := hb.size; omega⟩

theorem Env.drew {w : World} (h : Env w) : Env w.drew := h.below ((Below.refl _ _).drew)

set_option maxHeartbeats 800000 in
set_option maxRecDepth 100000 in
theorem spec_fraction (n k : Nat) (hn : n < 18446744073709551616) (hk : k ≤ 9) (hk1 : 1 ≤ k) (w : World)
    (henv : Env w) :
    Calls Tryd.prog 13 #[.int .u64 n, .int .u64 ((10 ^ k : Nat) : Int)] w fun e w' => e = .returned (.string ⟨(fracText n k).toArray⟩) ∧ Below w.heap.size w w' := by
  obtain ⟨u, hu⟩ : ∃ u, u = 10 ^ k := ⟨_, rfl⟩
  have hup : 1 ≤ u := by rw [hu]; exact Nat.pow_pos (by decide)
  have hu9 : u ≤ 1000000000 := by rw [hu]; exact Nat.pow_le_pow_right (by decide) hk
  rw [← hu]
  have Hu := Lib.hid hu
  clear hu
  obtain ⟨q, hq⟩ : ∃ q, q = n / u := ⟨_, rfl⟩
  obtain ⟨r, hr⟩ : ∃ r, r = n % u := ⟨_, rfl⟩
  have hqb : q < 18446744073709551616 := by rw [hq]; exact Nat.lt_of_le_of_lt (Nat.div_le_self _ _) hn
  have hrb : r < u := by rw [hr]; exact Nat.mod_lt _ hup
  have e1 : IntKind.u64.wrap ((n : Int) / (u : Int)) = (q : Int) := by
    rw [IntKind.wrap_u64, hq]; rw [← Int.natCast_ediv]; omega
  obtain ⟨t, ht⟩ : ∃ t, t = u + r := ⟨_, rfl⟩
  have e2 : IntKind.u64.wrap ((u : Int) + (n : Int) % (u : Int)) = (t : Int) := by
    rw [IntKind.wrap_u64, ht, hr]; rw [← Int.natCast_emod]; omega
  have htb : t < 18446744073709551616 := by omega
  have hft := strconv_FormatUint t htb
  rw [ht, Hu.out, digits_unit k r (by rw [← Hu.out]; exact hrb), ← Hu.out, ← ht] at hft
  have Hft := Lib.hid hft
  clear hft ht
  have Hq := Lib.hid hq
  have Hr := Lib.hid hr
  clear hq hr
  go_enter Tryd.func13, Tryd.ntmps13
  go_wp2_with fail
  refine (strconv_FormatUint q hqb _ henv.tab).mono ?_
  rintro e w1 ⟨rfl, hb1⟩
  go_wp2_with fail
  refine (Hft.out _ (henv.below hb1).tab).mono ?_
  rintro e w2 ⟨rfl, hb2⟩
  go_wp2_with fail
  go_loop [6] (fun v => ∃ l : List UInt8, v = .string ⟨l.toArray⟩ ∧ l.length ≤ 20 ∧ stripZ l = stripZ (padK k r))
    (fun v => match v with | .string s => s.size | _ => 0)
  case atStart =>
    refine ⟨padK k r, ?_, ?_, rfl⟩
    · rw [ByteArray.extract_mk]; simp
    · rw [padK_length]; omega
  case round =>
    obtain ⟨l, rfl, hl, hs⟩ := hrel
    have Hs := Lib.hid hs
    clear hs
    rcases List.eq_nil_or_concat l with rfl | ⟨l', a, hla⟩
    · go_wp2_with fail
      go_ret
      refine ⟨?_, (hb1.trans (hb2.mono hb1.size))⟩
      have hf := Hs.out
      rw [Hr.out, Hu.out] at hf
      exact ret_str (by rw [frac_nil hf, Hq.out, Hu.out])
    · rw [List.concat_eq_append] at hla
      subst hla
      have hl' : l'.length ≤ 19 := by simp at hl; omega
      clear hl
      have hidx : ∀ h, (ByteArray.mk (l' ++ [a]).toArray)[l'.length]'h = a := by intro h; exact List.getElem_concat_length rfl _
      by_cases ha : a = 48
      · subst ha
        go_wp2_with fail
        go_round
        case rel =>
          refine ⟨l', by rw [ByteArray.extract_mk]; simp, by omega, ?_⟩
          rw [← Hs.out, stripZ_snoc_zero]
        case measure => simp [ByteArray.size]
      · have ha' : ((a.toNat : Int) == 48) = false := by
          rw [beq_eq_false_iff_ne]; intro h; apply ha; apply UInt8.toNat_inj.1; simp; omega
        have hdl := dec_len q hqb
        have hne : (l' ++ [a]).isEmpty = false := by simp
        go_wp2_with fail
        go_ret
        refine ⟨?_, (hb1.trans (hb2.mono hb1.size))⟩
        have hf := Hs.out
        rw [Hr.out, Hu.out] at hf
        show Ending.returned (.string (⟨(decDigits q).toArray⟩ ++ ⟨([46] : List UInt8).toArray⟩ ++ ⟨(l' ++ [a]).toArray⟩)) = _
        rw [ByteArray.mk_append_mk, ByteArray.mk_append_mk]
        exact ret_str (by rw [frac_cons ha hf, Hq.out, Hu.out])
end Go.Proofs.YtmaffdhcmdhjfaaDoor
