/- What the two fields of days are parsed to, of parts that are right: exactly. The numbers of a right part lie within its field's bounds; none of a part that is not told, some of one that is. The plain law of Taken: of a right expression's text the package's own test and the spec's agree. impl.trigger, impl.Described. -/
import Derived.Test.YtmaffdhcmdhjfaaGreatDoorNG
import Derived.Test.YtmaffdhcmdhjfaaGreatDoorNH
set_option linter.unusedSimpArgs false
set_option linter.unusedVariables false
namespace Go.Proofs.YtmaffdhcmdhjfaaGreatDoor
open Go.RowKit Go.Lib
def PartV.domV (p : PartV) : List Int := if p.k < 8 then p.nums 3 else if p.k = 10 then [p.a] else if p.k = 11 then [0] else []
def PartV.dowV (p : PartV) : List Int := if p.k < 8 then p.nums 5 else [p.a]
theorem dom_exact {p : PartV} (h : p.rightB 3 = true) : ∃ zs, domO [] 1 31 (p.text 3) = some (zs, p.dayN) ∧ zs = p.domV := by
 have hn := right_n h
 cases right_case h with
 | common k8 k0 hc =>
   have hf : (76 : UInt8) ∉ p.text 3 ∧ ((3 : Nat) ≠ 5 → (87 : UInt8) ∉ p.text 3) := common_free (f := 3) (by decide) hn hc
   have h76 : (p.text 3).contains 76 = false := by simpa using hf.1
   have h87 : (p.text 3).contains 87 = false := by simpa using hf.2 (by decide)
   have hr : fieldO [] 1 31 (p.text 3) = some (p.nums 3) := field_common (f := 3) hn hc
   refine ⟨p.nums 3, ?_, by unfold PartV.domV; rw [if_pos k8]⟩
   unfold domO
   rw [h76, h87, hr]
   have : p.dayN = 0 := by unfold PartV.dayN; rw [if_neg (by omega), if_neg (by omega), if_neg (by omega), if_neg (by omega)]
   rw [this]
   rfl
 | last k8 _ =>
   refine ⟨[], ?_, by unfold PartV.domV; rw [if_neg (by omega), if_neg (by omega), if_neg (by omega)]⟩
   rw [text_k 3 p (by omega)]
   have : p.dayN = 1 := by unfold PartV.dayN; rw [if_pos k8]
   rw [k8, this]
   rfl
 | lastWork k11 _ =>
   refine ⟨[0], ?_, by unfold PartV.domV; rw [if_neg (by omega), if_neg (by omega), if_pos k11]⟩
   rw [text_k 3 p (by omega)]
   have : p.dayN = 3 := by unfold PartV.dayN; rw [if_neg (by omega), if_neg (by omega), if_neg (by omega), if_pos k11]
   rw [k11, this]
   rfl
 | before k9 _ a1 a31 =>
   refine ⟨[], ?_, by unfold PartV.domV; rw [if_neg (by omega), if_neg (by omega), if_neg (by omega)]⟩
   rw [text_k 3 p (by omega)]
   have hd : p.dayN = -p.a := by unfold PartV.dayN; rw [if_neg (by omega), if_pos k9]
   rw [k9, hd]
   have ht : textA 3 9 p.a p.b p.s p.n = 76 :: 45 :: decDigits p.a.toNat := by simp [textA, itoa_dec p.a (by omega)]
   rw [ht]
   have w := word_dec p.a.toNat
   have hl : ((76 :: 45 :: decDigits p.a.toNat).contains 76 && lastDayB (76 :: 45 :: decDigits p.a.toNat)) = true := by
    have hdg := digits_dec p.a.toNat
    have hpos := List.length_pos_iff.mpr (dec_ne p.a.toNat)
    unfold lastDayB
    simp [hdg]
    omega
   have hs : splitL (76 :: 45 :: decDigits p.a.toNat) 45 = [[76], decDigits p.a.toNat] := split_two (l := [76]) (by decide) (word_free w 45 (by decide))
   have hne : ¬ (76 :: 45 :: decDigits p.a.toNat = [76]) := by simp
   unfold domO
   rw [hl, if_pos rfl, if_neg hne, hs]
   simp only [atoi_dec p.a.toNat (by omega)]
   rw [within_true (by omega) (by omega), if_pos rfl]
   congr 2
   omega
 | closest k10 _ a1 a31 =>
   refine ⟨[p.a], ?_, by unfold PartV.domV; rw [if_neg (by omega), if_pos k10]⟩
   rw [text_k 3 p (by omega)]
   have hd : p.dayN = 2 := by unfold PartV.dayN; rw [if_neg (by omega), if_neg (by omega), if_pos k10]
   rw [k10, hd]
   have ht : textA 3 10 p.a p.b p.s p.n = decDigits p.a.toNat ++ [87] := by simp [textA, itoa_dec p.a (by omega)]
   rw [ht]
   have w := word_dec p.a.toNat
   have hdg := dec_dig p.a.toNat
   have hf76 : (decDigits p.a.toNat ++ [87]).contains 76 = false := by
    have : (76 : UInt8) ∉ decDigits p.a.toNat := fun hm => absurd (hdg _ hm) (by decide)
    simpa using this
   have hf87 : (decDigits p.a.toNat ++ [87]).contains 87 = true := by simp
   have hne : ¬ (decDigits p.a.toNat ++ [87] = [76, 87]) := by
    intro e
    have : (76 : UInt8) ∈ decDigits p.a.toNat ++ [87] := by rw [e]; simp
    simp only [List.mem_append, List.mem_singleton] at this
    rcases this with hm | hm
    ·exact absurd (hdg _ hm) (by decide)
    ·revert hm; decide
   have hw : weekdayB (decDigits p.a.toNat ++ [87]) = true := by
    have hpos := List.length_pos_iff.mpr (dec_ne p.a.toNat)
    have := digits_dec p.a.toNat
    unfold weekdayB
    simp [this]
    omega
   unfold domO
   rw [hf76, hf87, Bool.false_and, if_neg (by decide), if_pos rfl, if_neg hne, hw, if_pos rfl, List.dropLast_concat]
   simp only [atoi_dec p.a.toNat (by omega)]
   rw [within_true (by omega) (by omega), if_pos rfl]
   congr 3
   omega
 | lastOf _ h5 => exact absurd h5 (by decide)
 | nth _ h5 => exact absurd h5 (by decide)
theorem dow_exact {p : PartV} (h : p.rightB 5 = true) : ∃ zs, dowO dayN 1 7 (p.text 5) = some (zs, p.weekN) ∧ zs = p.dowV := by
 have hn := right_n h
 cases right_case h with
 | common k8 k0 hc =>
   have hf : (76 : UInt8) ∉ p.text 5 ∧ ((5 : Nat) ≠ 5 → (87 : UInt8) ∉ p.text 5) := common_free (f := 5) (by decide) hn hc
   have h76 : (p.text 5).contains 76 = false := by simpa using hf.1
   have h35 : (p.text 5).contains 35 = false := by
    have : (35 : UInt8) ∉ p.text 5 := fun hm => ((common_ok hn hc).2 _ hm).2 rfl
    simpa using this
   have hr : fieldO dayN 1 7 (p.text 5) = some (p.nums 5) := field_common (f := 5) hn hc
   refine ⟨p.nums 5, ?_, by unfold PartV.dowV; rw [if_pos k8]⟩
   unfold dowO
   rw [h76, h35, hr]
   have : p.weekN = 0 := by unfold PartV.weekN; rw [if_neg (by omega), if_neg (by omega)]
   rw [this]
   rfl
 | last _ h3 => exact absurd h3 (by decide)
 | lastWork _ h3 => exact absurd h3 (by decide)
 | before _ h3 => exact absurd h3 (by decide)
 | closest _ h3 => exact absurd h3 (by decide)
 | lastOf k12 _ a1 a7 =>
   refine ⟨[p.a], ?_, by unfold PartV.dowV; rw [if_neg (by omega)]⟩
   rw [text_k 5 p (by omega)]
   have hd : p.weekN = -1 := by unfold PartV.weekN; rw [if_pos k12]
   rw [k12, hd]
   have ht : textA 5 12 p.a p.b p.s p.n = nameL 5 p.a p.n ++ [76] := by simp [textA]
   rw [ht]
   obtain ⟨r, w⟩ := name_reads 5 p.a p.n (by omega) (by omega) hn
   have hl : ((nameL 5 p.a p.n ++ [76]).contains 76 && lastWeekdayB (nameL 5 p.a p.n ++ [76])) = true := by
    unfold lastWeekdayB
    simp
    exact ⟨w.2, by decide⟩
   unfold dowO
   rw [hl, if_pos rfl, List.dropLast_concat, if_neg w.1]
   have r' : normalizeO dayN (nameL 5 p.a p.n) = some p.a := r
   rw [r']
   simp only
   rw [within_true (by omega) (by omega), if_pos rfl]
 | nth k13 _ a1 a7 b1 b5 =>
   refine ⟨[p.a], ?_, by unfold PartV.dowV; rw [if_neg (by omega)]⟩
   rw [text_k 5 p (by omega)]
   have hd : p.weekN = p.b := by unfold PartV.weekN; rw [if_neg (by omega), if_pos k13]
   rw [k13, hd]
   have ht : textA 5 13 p.a p.b p.s p.n = nameL 5 p.a p.n ++ 35 :: decDigits p.b.toNat := by simp [textA, itoa_dec p.b (by omega)]
   rw [ht]
   obtain ⟨r, w⟩ := name_reads 5 p.a p.n (by omega) (by omega) hn
   have hf := (name_free (f := 5) (by decide) (a := p.a) (n := p.n) (by omega) hn).1
   have hdg := dec_dig p.b.toNat
   have h76 : (nameL 5 p.a p.n ++ 35 :: decDigits p.b.toNat).contains 76 = false := by
    have : (76 : UInt8) ∉ decDigits p.b.toNat := fun hm => absurd (hdg _ hm) (by decide)
    simpa using ⟨hf, this⟩
   have hs : splitL (nameL 5 p.a p.n ++ 35 :: decDigits p.b.toNat) 35 = [nameL 5 p.a p.n, decDigits p.b.toNat] :=
    split_two (word_free w 35 (by decide)) (word_free (word_dec _) 35 (by decide))
   have hh : ((nameL 5 p.a p.n ++ 35 :: decDigits p.b.toNat).contains 35 && hashB (nameL 5 p.a p.n ++ 35 :: decDigits p.b.toNat)) = true := by
    have hpos := List.length_pos_iff.mpr w.1
    have hdd := digits_dec p.b.toNat
    unfold hashB
    rw [hs]
    simp [hdd, hpos]
    exact w.2
   unfold dowO
   rw [h76, hh, Bool.false_and, if_neg (by decide), if_pos rfl, hs]
   have r' : normalizeO dayN (nameL 5 p.a p.n) = some p.a := r
   simp only [r']
   rw [within_true (by omega) (by omega), if_pos rfl]
   simp only [atoi_dec p.b.toNat (by omega)]
   have e : ((p.b.toNat : Nat) : Int) = p.b := by omega
   rw [e, within_true (by omega) (by omega), if_pos rfl]
def CronV.fieldsL (c : CronV) : List (List Int × Int) := [((c.p 0).nums 0, 0), ((c.p 1).nums 1, 0), ((c.p 2).nums 2, 0), ((c.p 3).domV, (c.p 3).dayN), ((c.p 4).nums 4, 0), ((c.p 5).dowV.map dec1, (c.p 5).weekN), (c.numsAt 6, 0)]
theorem build_exact {c : CronV} (h : c.allB 7 = true) (ht : toldK (c.p 3).k = false ∨ toldK (c.p 5).k = false) :
 cronT (withYear (c.parts c.last)) = some c.fieldsL := by
 have r := fun j hj => all_right h j hj
 have f0 : fieldO [] 0 59 ((c.p 0).text 0) = some ((c.p 0).nums 0) := field_part (f := 0) (by decide) (by decide) (r 0 (by decide))
 have f1 : fieldO [] 0 59 ((c.p 1).text 1) = some ((c.p 1).nums 1) := field_part (f := 1) (by decide) (by decide) (r 1 (by decide))
 have f2 : fieldO [] 0 23 ((c.p 2).text 2) = some ((c.p 2).nums 2) := field_part (f := 2) (by decide) (by decide) (r 2 (by decide))
 have f4 : fieldO monthN 1 12 ((c.p 4).text 4) = some ((c.p 4).nums 4) := field_part (f := 4) (by decide) (by decide) (r 4 (by decide))
 have f6 : fieldO [] 1970 3940 ((c.p 6).text 6) = some ((c.p 6).nums 6) := field_part (f := 6) (by decide) (by decide) (r 6 (by decide))
 obtain ⟨z3, f3, e3⟩ := dom_exact (r 3 (by decide))
 obtain ⟨z5, f5, e5⟩ := dow_exact (r 5 (by decide))
 have told : ∀ (j : Nat), (hj : j < 7) → toldK (c.p j).k = false → toldB ((c.p j).text j) = false := by
  intro j hj hk
  unfold toldK at hk
  simp at hk
  have h7 : (c.p j).k ≠ 7 := by
   intro e
   have := hk (by omega)
   omega
  rw [text_k j _ h7]
  by_cases h0 : (c.p j).k = 0
  ·rw [h0]; simp [textA, toldB]
  ·have h1 := hk h0
   rw [h1]; simp [textA, toldB]
 have htb : (toldB ((c.p 3).text 3) && toldB ((c.p 5).text 5)) = false := by
  rcases ht with ht | ht
  ·rw [told 3 (by decide) ht]; rfl
  ·rw [told 5 (by decide) ht]; simp
 have hy : withYear (c.parts c.last) = [(c.p 0).text 0, (c.p 1).text 1, (c.p 2).text 2, (c.p 3).text 3, (c.p 4).text 4, (c.p 5).text 5, if c.six then [42] else (c.p 6).text 6] := by
  rw [parts_cons]
  unfold withYear
  cases c.six <;> simp
 have f6' : fieldO [] 1970 3940 (if c.six then [42] else (c.p 6).text 6) = some (c.numsAt 6) := by
  have e6 : c.numsAt 6 = if c.six = true then [] else (c.p 6).nums 6 := by
   unfold CronV.numsAt
   simp
  rw [e6]
  cases hs : c.six
  ·rw [if_neg (by decide), if_neg (by decide)]; exact f6
  ·rw [if_pos rfl, if_pos rfl]; rfl
 subst e3; subst e5
 rw [hy]
 unfold cronT CronV.fieldsL
 simp only [htb, Bool.false_eq_true, if_false]
 unfold buildO
 simp only [f0, f1, f2, f3, f4, f5, f6']
theorem fields_exact {c : CronV} (h : RightIs c) : implO c.text = some c.fieldsL ∧ exprO c.text = some c.fieldsL ∧ isTextB c.text = true := by
 have h1 := build_exact h.all h.told
 have ht := text_isText h.all h.len
 have he : exprO c.text = some c.fieldsL := by
  unfold exprO
  rw [trim_text h.all, parse_text h.all, h1]
 refine ⟨?_, he, ht⟩
 unfold implO
 rw [ht, if_pos rfl, he]
end Go.Proofs.YtmaffdhcmdhjfaaGreatDoor
namespace Go.Proofs.YtmaffdhcmdhjfaaGreatDoor
open Go.RowKit Go.Lib
theorem stepsL_ne (a b s : Int) : stepsL a b s ≠ [] := by
 unfold stepsL; simp
theorem stepsL_bounds {a b s x : Int} (hs : 1 ≤ s) (hab : a ≤ b) (h : x ∈ stepsL a b s) : a ≤ x ∧ x ≤ b := by
 unfold stepsL at h
 simp only [List.mem_map, List.mem_range] at h
 obtain ⟨i, hi, rfl⟩ := h
 have h0 : 0 ≤ s * (i : Int) := Int.mul_nonneg (by omega) (by omega)
 have hq : 0 ≤ (b - a) / s := Int.ediv_nonneg (by omega) (by omega)
 have hi2 : (i : Int) ≤ (b - a) / s := by omega
 have h1 : s * (i : Int) ≤ s * ((b - a) / s) := Int.mul_le_mul_of_nonneg_left hi2 (by omega)
 have h2 : s * ((b - a) / s) ≤ b - a := Int.mul_ediv_self_le (by omega)
 omega
theorem simple_bounds {f : Nat} {k a b s x : Int} (h : simpleB f k a b s = true) (hx : x ∈ numsA f k a b s) : leastF f ≤ x ∧ x ≤ mostF f := by
 unfold simpleB at h
 unfold numsA at hx
 have hlm : leastF f ≤ mostF f := by unfold leastF mostF; repeat' split <;> omega
 split at h
 ·next hk => rw [if_pos hk, stepsL_self] at hx; simp at h hx; subst hx; exact h
 ·next k2 =>
  rw [if_neg k2] at hx
  split at h
  ·next hk => rw [if_pos hk] at hx; simp at h; have := stepsL_bounds (by omega) (by omega) hx; omega
  ·next k3 =>
   rw [if_neg k3] at hx
   split at h
   ·next hk => rw [if_pos hk] at hx; simp at h; have := stepsL_bounds (by omega) (by omega) hx; omega
   ·next k4 =>
    rw [if_neg k4] at hx
    split at h
    ·next hk => rw [if_pos hk] at hx; simp at h; exact stepsL_bounds (by omega) hlm hx
    ·next k5 =>
     rw [if_neg k5] at hx
     split at h
     ·next hk => rw [if_pos hk] at hx; simp at h; have := stepsL_bounds (by omega) (by omega) hx; omega
     ·cases h
theorem simple_ne {f : Nat} {k a b s : Int} (h : simpleB f k a b s = true) : numsA f k a b s ≠ [] ∧ 2 ≤ k := by
 unfold simpleB at h
 unfold numsA
 by_cases k2 : k = 2
 ·rw [if_pos k2]; exact ⟨stepsL_ne _ _ _, by omega⟩
 by_cases k3 : k = 3
 ·rw [if_neg k2, if_pos k3]; exact ⟨stepsL_ne _ _ _, by omega⟩
 by_cases k4 : k = 4
 ·rw [if_neg k2, if_neg k3, if_pos k4]; exact ⟨stepsL_ne _ _ _, by omega⟩
 by_cases k5 : k = 5
 ·rw [if_neg k2, if_neg k3, if_neg k4, if_pos k5]; exact ⟨stepsL_ne _ _ _, by omega⟩
 by_cases k6 : k = 6
 ·rw [if_neg k2, if_neg k3, if_neg k4, if_neg k5, if_pos k6]; exact ⟨stepsL_ne _ _ _, by omega⟩
 rw [if_neg k2, if_neg k3, if_neg k4, if_neg k5, if_neg k6] at h
 cases h
theorem common_bounds {f : Nat} {k a b s x : Int} {items : List Atom} (h : Common f k a b s items) (hx : x ∈ numsP f k a b s items) : leastF f ≤ x ∧ x ≤ mostF f := by
 unfold numsP at hx
 cases h with
 | plain h7 h =>
   rw [if_neg h7] at hx
   unfold plainB at h
   simp only [Bool.or_eq_true, beq_iff_eq] at h
   rcases h with (rfl | rfl) | h
   ·simp [numsA] at hx
   ·simp [numsA] at hx
   ·exact simple_bounds h hx
 | list h7 h =>
   rw [if_pos h7] at hx
   have hx' := (sortL_perm _).mem_iff.mp hx
   obtain ⟨y, hy, hm⟩ := List.mem_flatMap.mp hx'
   exact simple_bounds (h.ok y hy).1 hm
theorem common_ne {f : Nat} {k a b s : Int} {items : List Atom} (h : Common f k a b s items) : numsP f k a b s items = [] ↔ toldK k = false := by
 unfold numsP
 cases h with
 | plain h7 h =>
   rw [if_neg h7]
   unfold plainB at h
   simp only [Bool.or_eq_true, beq_iff_eq] at h
   rcases h with (rfl | rfl) | h
   ·simp [numsA, toldK]
   ·simp [numsA, toldK]
   ·obtain ⟨h1, h2⟩ := simple_ne h
    constructor
    ·intro e; exact absurd e h1
    ·intro e; unfold toldK at e; simp at e; omega
 | list h7 h =>
   rw [if_pos h7]
   constructor
   ·intro e
    have hl := congrArg List.length e
    rw [(sortL_perm _).length_eq, List.length_nil] at hl
    have h0 := List.length_eq_zero_iff.mp hl
    rcases hi : items with _ | ⟨y, ys⟩
    ·have := h.two; rw [hi] at this; simp at this
    ·rw [hi, List.flatMap_cons] at h0
     have := (List.append_eq_nil_iff.mp h0).1
     exact absurd this (simple_ne (h.ok y (by rw [hi]; simp)).1).1
   ·intro e; subst h7; unfold toldK at e; simp at e
theorem part_bounds {f : Nat} {p : PartV} (h : p.rightB f = true) (h8 : p.k < 8) : (∀ x ∈ p.nums f, leastF f ≤ x ∧ x ≤ mostF f) ∧ (p.nums f = [] ↔ toldK p.k = false) := by
 cases right_case h with
 | common _ _ hc => exact ⟨fun x hx => common_bounds hc hx, common_ne hc⟩
 | last k => omega
 | lastWork k => omega
 | before k => omega
 | closest k => omega
 | lastOf k => omega
 | nth k => omega
end Go.Proofs.YtmaffdhcmdhjfaaGreatDoor
namespace Go.Proofs.YtmaffdhcmdhjfaaGreatDoor
open Go.RowKit Go.Lib
theorem within_iff {a b : Int} {l : List Int} : withinB a b l = true ↔ ∀ x ∈ l, a ≤ x ∧ x ≤ b := by
 unfold withinB
 rw [List.all_eq_true]
 constructor <;> intro h x hx <;> simpa using h x hx
theorem dec1_small {x : Int} (h1 : 1 ≤ x) (h2 : x ≤ 7) : dec1 x = x - 1 := by
 unfold dec1
 have : x = 1 ∨ x = 2 ∨ x = 3 ∨ x = 4 ∨ x = 5 ∨ x = 6 ∨ x = 7 := by omega
 rcases this with rfl | rfl | rfl | rfl | rfl | rfl | rfl <;> decide
theorem right_small {f : Nat} {p : PartV} (h : p.rightB f = true) (h3 : f ≠ 3) (h5 : f ≠ 5) : p.k < 8 := by
 cases right_case h with
 | common k _ _ => exact k
 | last _ k => exact absurd k h3
 | lastWork _ k => exact absurd k h3
 | before _ k => exact absurd k h3
 | closest _ k => exact absurd k h3
 | lastOf _ k => exact absurd k h5
 | nth _ k => exact absurd k h5
theorem within_part {f : Nat} {p : PartV} (h : p.rightB f = true) (h8 : p.k < 8) : withinB (leastF f) (mostF f) (p.nums f) = true := within_iff.mpr (part_bounds h h8).1
theorem len_told {f : Nat} {p : PartV} (h : p.rightB f = true) (h8 : p.k < 8) : decide (0 < (p.nums f).length) = toldK p.k := by
 have := (part_bounds h h8).2
 rcases ht : toldK p.k
 ·rw [this.mpr ht]; rfl
 ·have hn : p.nums f ≠ [] := fun e => by rw [this.mp e] at ht; cases ht
  simpa using List.length_pos_iff.mpr hn
theorem dow_within {p : PartV} (h : p.rightB 5 = true) : withinB 0 6 (p.dowV.map dec1) = true := by
 have key : ∀ x ∈ p.dowV, 1 ≤ x ∧ x ≤ 7 := by
  intro x hx
  unfold PartV.dowV at hx
  by_cases h8 : p.k < 8
  ·rw [if_pos h8] at hx
   exact (part_bounds h h8).1 x hx
  ·rw [if_neg h8] at hx
   simp at hx
   subst hx
   cases right_case h with
   | common k _ _ => omega
   | last _ k => omega
   | lastWork _ k => omega
   | before _ k => omega
   | closest _ k => omega
   | lastOf _ _ a b => exact ⟨a, b⟩
   | nth _ _ a b => exact ⟨a, b⟩
 rw [within_iff]
 intro x hx
 obtain ⟨y, hy, rfl⟩ := List.mem_map.mp hx
 have := key y hy
 rw [dec1_small this.1 this.2]
 omega
def over28 (l : List Int) : Bool := l.any fun x => decide (28 < x)
theorem over28_iff {l : List Int} : over28 l = true ↔ ∃ x ∈ l, 28 < x := by unfold over28; simp
theorem dom_law {p : PartV} (h : p.rightB 3 = true) :
 (decide (p.dayN < -27) || !withinB 0 28 p.domV || (decide (p.dayN ≠ 3) && !withinB 1 28 p.domV)) = (over28 (p.nums 3) || (decide (p.k = 9) && decide (27 < p.a)) || (decide (p.k = 10) && decide (28 < p.a))) ∧
 (decide (0 < p.domV.length) || decide (p.dayN ≠ 0)) = toldK p.k := by
 have nil : 8 ≤ p.k → p.nums 3 = [] := fun h8 => by
  unfold PartV.nums numsP numsA
  rw [if_neg (by omega), if_neg (by omega), if_neg (by omega), if_neg (by omega), if_neg (by omega), if_neg (by omega)]
 have told : 8 ≤ p.k → toldK p.k = true := fun h8 => by unfold toldK; simp; omega
 cases right_case h with
 | common k8 k0 hc =>
   have e : p.domV = p.nums 3 := by unfold PartV.domV; rw [if_pos k8]
   have d : p.dayN = 0 := by unfold PartV.dayN; rw [if_neg (by omega), if_neg (by omega), if_neg (by omega), if_neg (by omega)]
   have b := (part_bounds h k8).1
   have hl := len_told h k8
   rw [e, d, hl]
   refine ⟨?_, by simp⟩
   have h9 : decide (p.k = 9) = false := by simp; omega
   have h10 : decide (p.k = 10) = false := by simp; omega
   rw [h9, h10]
   have hm : mostF 3 = 31 := rfl
   have hle : leastF 3 = 1 := rfl
   rcases ho : over28 (p.nums 3)
   ·have w1 : withinB 1 28 (p.nums 3) = true := within_iff.mpr fun x hx => by
     have := b x hx
     have hn : ¬ 28 < x := fun hx2 => by rw [over28_iff.mpr ⟨x, hx, hx2⟩] at ho; cases ho
     omega
    have w0 : withinB 0 28 (p.nums 3) = true := within_iff.mpr fun x hx => by
     have := within_iff.mp w1 x hx
     omega
    rw [w0, w1]; rfl
   ·obtain ⟨x, hx, h28⟩ := over28_iff.mp ho
    have w0 : withinB 0 28 (p.nums 3) = false := by
     rcases hw : withinB 0 28 (p.nums 3)
     ·rfl
     ·have := within_iff.mp hw x hx; omega
    rw [w0]; simp
 | last k _ =>
   have e : p.domV = [] := by unfold PartV.domV; rw [if_neg (by omega), if_neg (by omega), if_neg (by omega)]
   have d : p.dayN = 1 := by unfold PartV.dayN; rw [if_pos k]
   rw [e, d, nil (by omega), told (by omega), k]
   simp [withinB, over28]
 | lastWork k _ =>
   have e : p.domV = [0] := by unfold PartV.domV; rw [if_neg (by omega), if_neg (by omega), if_pos k]
   have d : p.dayN = 3 := by unfold PartV.dayN; rw [if_neg (by omega), if_neg (by omega), if_neg (by omega), if_pos k]
   rw [e, d, nil (by omega), told (by omega), k]
   simp [withinB, over28]
 | before k _ a1 a31 =>
   have e : p.domV = [] := by unfold PartV.domV; rw [if_neg (by omega), if_neg (by omega), if_neg (by omega)]
   have d : p.dayN = -p.a := by unfold PartV.dayN; rw [if_neg (by omega), if_pos k]
   rw [e, d, nil (by omega), told (by omega), k]
   rw [Bool.eq_iff_iff, Bool.eq_iff_iff]
   simp [withinB, over28]
   omega
 | closest k _ a1 a31 =>
   have e : p.domV = [p.a] := by unfold PartV.domV; rw [if_neg (by omega), if_pos k]
   have d : p.dayN = 2 := by unfold PartV.dayN; rw [if_neg (by omega), if_neg (by omega), if_pos k]
   rw [e, d, nil (by omega), told (by omega), k]
   rw [Bool.eq_iff_iff, Bool.eq_iff_iff]
   simp [withinB, over28]
   omega
 | lastOf _ k => exact absurd k (by decide)
 | nth _ k => exact absurd k (by decide)
theorem dow_law {c : CronV} (h : (c.p 5).rightB 5 = true) :
 decide ((c.p 5).weekN = 5) = (decide ((c.p 5).k = 13) && decide ((c.p 5).b = 5)) ∧
 decide (1 < ((c.p 5).dowV.map dec1).length) = decide (1 < (c.numsAt 5).length) ∧ decide (0 < ((c.p 5).dowV.map dec1).length) = toldK (c.p 5).k := by
 have e5 : (c.numsAt 5).length = ((c.p 5).nums 5).length := by unfold CronV.numsAt; rw [if_pos rfl]; simp
 rw [e5]
 generalize c.p 5 = p at *
 have nil : 8 ≤ p.k → p.nums 5 = [] := fun h8 => by
  unfold PartV.nums numsP numsA
  rw [if_neg (by omega), if_neg (by omega), if_neg (by omega), if_neg (by omega), if_neg (by omega), if_neg (by omega)]
 have told : 8 ≤ p.k → toldK p.k = true := fun h8 => by unfold toldK; simp; omega
 cases right_case h with
 | common k8 k0 hc =>
   have e : p.dowV = p.nums 5 := by unfold PartV.dowV; rw [if_pos k8]
   have d : p.weekN = 0 := by unfold PartV.weekN; rw [if_neg (by omega), if_neg (by omega)]
   have hl := len_told h k8
   have h13 : decide (p.k = 13) = false := by simp; omega
   rw [e, d, h13, List.length_map, hl]
   exact ⟨rfl, rfl, rfl⟩
 | last _ k => exact absurd k (by decide)
 | lastWork _ k => exact absurd k (by decide)
 | before _ k => exact absurd k (by decide)
 | closest _ k => exact absurd k (by decide)
 | lastOf k _ _ _ =>
   have e : p.dowV = [p.a] := by unfold PartV.dowV; rw [if_neg (by omega)]
   have d : p.weekN = -1 := by unfold PartV.weekN; rw [if_pos k]
   rw [e, d, nil (by omega), told (by omega), k]
   simp
 | nth k _ _ _ _ _ =>
   have e : p.dowV = [p.a] := by unfold PartV.dowV; rw [if_neg (by omega)]
   have d : p.weekN = p.b := by unfold PartV.weekN; rw [if_neg (by omega), if_pos k]
   rw [e, d, nil (by omega), told (by omega), k]
   simp
def CronV.takenS (c : CronV) : Bool :=
 !(over28 (c.numsAt 3) || (decide ((c.p 3).k = 9) && decide (27 < (c.p 3).a)) || (decide ((c.p 3).k = 10) && decide (28 < (c.p 3).a))) &&
 !(((decide ((c.p 5).k = 13) && decide ((c.p 5).b = 5)) && (toldK (c.p 4).k || (!c.six && toldK (c.p 6).k))) || (decide (1 < (c.numsAt 5).length) && toldK (c.p 4).k)) &&
 (decide (0 < (c.numsAt 2).length) || (!toldK (c.p 3).k && !toldK (c.p 5).k && !toldK (c.p 4).k && !(!c.six && toldK (c.p 6).k)))
theorem taken_law {c : CronV} (h : RightIs c) : takenF c.fieldsL = c.takenS := by
 have r := fun j hj => all_right h.all j hj
 have W0 : withinB 0 59 ((c.p 0).nums 0) = true := within_part (f := 0) (r 0 (by decide)) (right_small (r 0 (by decide)) (by decide) (by decide))
 have W1 : withinB 0 59 ((c.p 1).nums 1) = true := within_part (f := 1) (r 1 (by decide)) (right_small (r 1 (by decide)) (by decide) (by decide))
 have W2 : withinB 0 23 ((c.p 2).nums 2) = true := within_part (f := 2) (r 2 (by decide)) (right_small (r 2 (by decide)) (by decide) (by decide))
 have W4 : withinB 1 12 ((c.p 4).nums 4) = true := within_part (f := 4) (r 4 (by decide)) (right_small (r 4 (by decide)) (by decide) (by decide))
 have V6 : withinB 1970 2199 ((c.p 6).nums 6) = true := within_part (f := 6) (r 6 (by decide)) (right_small (r 6 (by decide)) (by decide) (by decide))
 have W5 := dow_within (r 5 (by decide))
 have e6 : c.numsAt 6 = if c.six = true then [] else (c.p 6).nums 6 := by unfold CronV.numsAt; simp
 have W6 : withinB 1970 2199 (c.numsAt 6) = true := by rw [e6]; split; rfl; exact V6
 have T4 := len_told (r 4 (by decide)) (right_small (r 4 (by decide)) (by decide) (by decide))
 have T6 : decide (0 < (c.numsAt 6).length) = (!c.six && toldK (c.p 6).k) := by
  have := len_told (r 6 (by decide)) (right_small (r 6 (by decide)) (by decide) (by decide))
  rw [e6]
  cases hs : c.six
  ·rw [if_neg (by decide), this]; rfl
  ·rw [if_pos rfl]; rfl
 obtain ⟨D1, D2⟩ := dom_law (r 3 (by decide))
 obtain ⟨E1, E2, E3⟩ := dow_law (c := c) (r 5 (by decide))
 have n3 : c.numsAt 3 = (c.p 3).nums 3 := by unfold CronV.numsAt; simp
 have n2 : c.numsAt 2 = (c.p 2).nums 2 := by unfold CronV.numsAt; simp
 have z : ∀ l : List Int, decide (l.length = 0) = !decide (0 < l.length) := fun l => by cases l <;> simp
 show takenB (rowN c.fieldsL) (c.p 3).dayN (c.p 5).weekN = _
 have r0 : rowN c.fieldsL 0 = (c.p 0).nums 0 := rfl
 have r1 : rowN c.fieldsL 1 = (c.p 1).nums 1 := rfl
 have r2 : rowN c.fieldsL 2 = (c.p 2).nums 2 := rfl
 have r3 : rowN c.fieldsL 3 = (c.p 3).domV := rfl
 have r4 : rowN c.fieldsL 4 = (c.p 4).nums 4 := rfl
 have r5 : rowN c.fieldsL 5 = (c.p 5).dowV.map dec1 := rfl
 have r6 : rowN c.fieldsL 6 = c.numsAt 6 := rfl
 unfold takenB CronV.takenS
 rw [r0, r1, r2, r3, r4, r5, r6, W0, W1, W2, W4, W5, W6, D1, E1, E2, E3, D2, z, z, T4, T6, n3, n2]
 generalize (over28 ((c.p 3).nums 3) || (decide ((c.p 3).k = 9) && decide (27 < (c.p 3).a)) || (decide ((c.p 3).k = 10) && decide (28 < (c.p 3).a))) = A
 generalize (decide ((c.p 5).k = 13) && decide ((c.p 5).b = 5)) = B
 generalize toldK (c.p 4).k = t4
 generalize (!c.six && toldK (c.p 6).k) = t6
 generalize decide (1 < (c.numsAt 5).length) = m
 generalize decide (0 < ((c.p 2).nums 2).length) = q
 generalize toldK (c.p 3).k = t3
 generalize toldK (c.p 5).k = t5
 cases A <;> cases B <;> cases t4 <;> cases t6 <;> cases m <;> cases q <;> cases t3 <;> cases t5 <;> rfl
end Go.Proofs.YtmaffdhcmdhjfaaGreatDoor
namespace Go.Proofs.YtmaffdhcmdhjfaaGreatDoor
open Go.RowKit Go.Lib
theorem TrigAt.ext {w w' : World} {base : Nat} {v : Value} {ex : ByteArray} {fs : List (List Int × Int)} {B : Nat} {u : Bool} (h : TrigAt w base v ex fs B u) (x : Ext w w') : TrigAt w' base v ex fs B u := by
 obtain ⟨N, fv, L, P, h1, h2, h3, h4, h5⟩ := h
 exact ⟨N, fv, L, P, h1, h2, by rw [Below.block x N (block_lt h3)]; exact h3, h4, h5.ext x⟩
theorem TrigAt.mono {w : World} {b b' : Nat} {v : Value} {ex : ByteArray} {fs : List (List Int × Int)} {B : Nat} {u : Bool} (h : TrigAt w b v ex fs B u) (hb : b' ≤ b) : TrigAt w b' v ex fs B u := by
 obtain ⟨N, fv, L, P, h1, h2, h3, h4, h5⟩ := h
 exact ⟨N, fv, L, P, h1, Nat.le_trans hb h2, h3, h4, h5.mono hb⟩
theorem trigger_fine (s : ByteArray) (n : Int) (fs : List (List Int × Int)) (w : World) (hs : s.size ≤ 100000000) (h0 : -1440 ≤ n) (h1 : n ≤ 1440) (hf : implO (bytes s) = some fs) (ht : takenF fs = true) (hE : Env w) :
 Calls Tryz.prog 45 #[.string s, .int .i64 n] w fun e w' => ∃ B v, e = .returned (.tuple #[v, .int .i64 0]) ∧ TrigAt w' w.heap.size v (mk (trimL (bytes s))) fs B (decide (n = 0)) ∧ LocAt w' B (placeB n) (n * 60) (decide (n = 0)) ∧ Ext w w' := by
 have hT : isTextB (bytes s) = true := by
  unfold implO at hf; split at hf
  ·assumption
  ·cases hf
 have hX : exprO (bytes s) = some fs := by unfold implO at hf; rw [hT, if_pos rfl] at hf; exact hf
 have hl := isText_len hT
 rw [bytes_length] at hl
 have hK : takenO (bytes s) = true := by unfold takenO; rw [hf]; exact ht
 have HT := Lib.hid hT
 have HX := Lib.hid hX
 have HK := Lib.hid hK
 clear hT hX hK hf ht
 go_enter Tryz.func45, Tryz.ntmps45
 go_wp2_with fail
 go_at_call 38
 refine (is_text s _ hs).mono ?_
 rintro e w1 ⟨rfl, rfl⟩
 rw [HT.out]
 go_wp2_with fail
 go_at_call 64
 refine (is_place n _).mono ?_
 rintro e w1 ⟨rfl, rfl⟩
 rw [show (decide (-1440 ≤ n) && decide (n ≤ 1440)) = true by simp; omega]
 go_wp2_with fail
 go_at_call 66
 refine (place_any n _ h0 h1).mono ?_
 rintro e w2 ⟨rfl, hL, hx2⟩
 have HL := Lib.hid hL
 go_wp2_with fail
 go_at_call 65
 refine (new_cron s _ _ _ _ _ (by omega) HL.out (hE.ext hx2)).mono ?_
 rintro e w3 ⟨⟨fs', v, hf, rfl, hTr⟩ | ⟨hf, _⟩, hx3⟩
 ·have e : fs' = fs := by have := HX.out.symm.trans hf; injection this with this; exact this.symm
  subst e
  obtain ⟨N, hN⟩ : ∃ N, v = .pointer (some ⟨N, 0, none⟩) := by obtain ⟨N, _, _, _, hv, _⟩ := hTr; exact ⟨N, hv⟩
  subst hN
  have HTr := Lib.hid hTr
  have HL3 := Lib.hid (HL.out.ext hx3)
  have HX3 := Lib.hid (hx2.trans hx3)
  clear hf hTr hL
  go_wp2_with fail
  go_at_call 30
  refine (taken_any s _ hs (hE.ext HX3.out)).mono ?_
  rintro e w4 ⟨rfl, hx4⟩
  rw [HK.out]
  go_wp2_with fail
  go_ret2
  exact ⟨_, _, rfl, (HTr.out.mono (Below.size hx2)).ext hx4, HL3.out.ext hx4, HX3.out.trans hx4⟩
 ·rw [HX.out] at hf; cases hf
theorem described_fine (s : ByteArray) (n : Int) (fs : List (List Int × Int)) (w : World) (hs : s.size ≤ 100000000) (h0 : -1440 ≤ n) (h1 : n ≤ 1440) (hf : implO (bytes s) = some fs) (ht : takenF fs = true) (hE : Env w) :
 Calls Tryz.prog 23 #[.string s, .int .i64 n] w fun e w' => e = .returned (.tuple #[.string (descB (mk (trimL (bytes s))) (placeB n)), .bool true]) ∧ Ext w w' := by
 have hT : isTextB (bytes s) = true := by
  unfold implO at hf; split at hf
  ·assumption
  ·cases hf
 have hl := isText_len hT
 have hl2 := trimL_len (bytes s)
 have hz : (mk (trimL (bytes s))).size ≤ 4096 := by rw [size_mk]; omega
 have hp : (placeB n).size ≤ 4096 := by unfold placeB; split <;> decide
 have Hf := Lib.hid hf
 have Ht := Lib.hid ht
 have Hz := Lib.hid hz
 have Hp := Lib.hid hp
 clear hf ht hT hl hl2 hz hp
 go_enter Tryz.func23, Tryz.ntmps23
 go_wp2_with fail
 go_at_call 45
 refine (trigger_fine s n fs _ hs h0 h1 Hf.out Ht.out hE).mono ?_
 rintro e w1 ⟨B, v, rfl, hTr, hL, hx⟩
 obtain ⟨N, hN⟩ : ∃ N, v = .pointer (some ⟨N, 0, none⟩) := by obtain ⟨N, _, _, _, hv, _⟩ := hTr; exact ⟨N, hv⟩
 subst hN
 have HTr := Lib.hid hTr
 have HL := Lib.hid hL
 clear hTr hL
 go_wp2_with fail
 go_at_call 46
 refine (describe _ _ _ _ _ _ _ _ _ HTr.out HL.out Hz.out Hp.out).mono ?_
 rintro e w2 ⟨rfl, hx2⟩
 go_wp2_with fail
 go_ret2
 exact ⟨rfl, hx.trans hx2⟩
end Go.Proofs.YtmaffdhcmdhjfaaGreatDoor
