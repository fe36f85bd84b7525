/- The plain law of an expression's text, fourth part: the fields of days, and the expression as a whole. -/
import Derived.Test.YtmaffdhcmdhjfaaGreatDoorSpL
namespace Go.Proofs.YtmaffdhcmdhjfaaGreatDoor
open Go.RowKit Go.Lib

inductive RightCase (f : Nat) (p : PartV) : Prop where
  | common : p.k < 8 → 0 ≤ p.k → Common f p.k p.a p.b p.s p.items → RightCase f p
  | last : p.k = 8 → f = 3 → RightCase f p
  | lastWork : p.k = 11 → f = 3 → RightCase f p
  | before : p.k = 9 → f = 3 → 1 ≤ p.a → p.a ≤ 31 → RightCase f p
  | closest : p.k = 10 → f = 3 → 1 ≤ p.a → p.a ≤ 31 → RightCase f p
  | lastOf : p.k = 12 → f = 5 → 1 ≤ p.a → p.a ≤ 7 → RightCase f p
  | nth : p.k = 13 → f = 5 → 1 ≤ p.a → p.a ≤ 7 → 1 ≤ p.b → p.b ≤ 5 → RightCase f p

theorem right_case {f : Nat} {p : PartV} (h : p.rightB f = true) : RightCase f p := by
  have hli := right_items h
  unfold PartV.rightB YtmaffdhcmdhjfaaGreatDoor.rightB at h
  by_cases hn0 : p.n < 0
  · rw [if_pos hn0] at h; cases h
  by_cases hn2 : 2 < p.n
  · rw [if_neg hn0, if_pos hn2] at h; cases h
  rw [if_neg hn0, if_neg hn2] at h
  by_cases k0 : p.k = 0
  · exact .common (by omega) (by omega) (.plain (by omega) (by unfold plainB; simp [k0]))
  by_cases k1 : p.k = 1
  · exact .common (by omega) (by omega) (.plain (by omega) (by unfold plainB; simp [k1]))
  by_cases k7 : p.k = 7
  · exact .common (by omega) (by omega) (.list k7 (hli k7).1)
  rw [if_neg k0, if_neg k1, if_neg k7] at h
  by_cases k8 : p.k = 8
  · rw [if_pos k8] at h; exact .last k8 (by simpa using h)
  by_cases k11 : p.k = 11
  · rw [if_neg k8, if_pos k11] at h; exact .lastWork k11 (by simpa using h)
  by_cases k9 : p.k = 9
  · rw [if_neg k8, if_neg k11, if_pos k9] at h
    simp only [Bool.and_eq_true, decide_eq_true_eq] at h
    exact .before k9 h.1.1 h.1.2 h.2
  by_cases k10 : p.k = 10
  · rw [if_neg k8, if_neg k11, if_neg k9, if_pos k10] at h
    simp only [Bool.and_eq_true, decide_eq_true_eq] at h
    exact .closest k10 h.1.1 h.1.2 h.2
  by_cases k12 : p.k = 12
  · rw [if_neg k8, if_neg k11, if_neg k9, if_neg k10, if_pos k12] at h
    simp only [Bool.and_eq_true, decide_eq_true_eq] at h
    exact .lastOf k12 h.1.1 h.1.2 h.2
  by_cases k13 : p.k = 13
  · rw [if_neg k8, if_neg k11, if_neg k9, if_neg k10, if_neg k12, if_pos k13] at h
    simp only [Bool.and_eq_true, decide_eq_true_eq] at h
    exact .nth k13 h.1.1.1.1 h.1.1.1.2 h.1.1.2 h.1.2 h.2
  rw [if_neg k8, if_neg k11, if_neg k9, if_neg k10, if_neg k12, if_neg k13] at h
  have hs : Simple f p.k p.a p.b p.s p.n := ⟨h, by omega⟩
  have hk := hs.kind
  exact .common (by omega) (by omega) (.plain k7 (by unfold plainB; rw [h]; simp))

theorem right_n {f : Nat} {p : PartV} (h : p.rightB f = true) : p.n = 0 ∨ p.n = 1 ∨ p.n = 2 := (right_plain h).1

theorem text_k (f : Nat) (p : PartV) (h7 : p.k ≠ 7) : p.text f = textA f p.k p.a p.b p.s p.n := by unfold PartV.text textP; rw [if_neg h7]

theorem digits_dec (u : Nat) : digitsB (decDigits u) = true := by
  unfold digitsB
  rw [Bool.and_eq_true, List.all_eq_true]
  refine ⟨dec_dig u, ?_⟩
  have := dec_ne u
  rw [decide_eq_true_eq]
  exact List.length_pos_iff.mpr this

theorem dom_part {p : PartV} (h : p.rightB 3 = true) : ∃ zs, domO [] 1 31 (p.text 3) = some (zs, p.dayN) ∧ (p.k < 8 → zs = p.nums 3) := by
  have hn := right_n h
  cases right_case h with
  | common k8 k0 hc =>
    have hf : (76 : UInt8) ∉ p.text 3 ∧ ((3 : Nat) ≠ 5 → (87 : UInt8) ∉ p.text 3) := common_free (f := 3) (by decide) hn hc
    have h76 : (p.text 3).contains 76 = false := by simpa using hf.1
    have h87 : (p.text 3).contains 87 = false := by simpa using hf.2 (by decide)
    have hr : fieldO [] 1 31 (p.text 3) = some (p.nums 3) := field_common (f := 3) hn hc
    refine ⟨p.nums 3, ?_, fun _ => rfl⟩
    unfold domO
    rw [h76, h87, hr]
    have : p.dayN = 0 := by unfold PartV.dayN; rw [if_neg (by omega), if_neg (by omega), if_neg (by omega), if_neg (by omega)]
    rw [this]
    rfl
  | last k8 _ =>
    refine ⟨[], ?_, fun h => by omega⟩
    rw [text_k 3 p (by omega)]
    have : p.dayN = 1 := by unfold PartV.dayN; rw [if_pos k8]
    rw [k8, this]
    rfl
  | lastWork k11 _ =>
    refine ⟨[0], ?_, fun h => by omega⟩
    rw [text_k 3 p (by omega)]
    have : p.dayN = 3 := by unfold PartV.dayN; rw [if_neg (by omega), if_neg (by omega), if_neg (by omega), if_pos k11]
    rw [k11, this]
    rfl
  | before k9 _ a1 a31 =>
    refine ⟨[], ?_, fun h => by omega⟩
    rw [text_k 3 p (by omega)]
    have hd : p.dayN = -p.a := by unfold PartV.dayN; rw [if_neg (by omega), if_pos k9]
    rw [k9, hd]
    have ht : textA 3 9 p.a p.b p.s p.n = 76 :: 45 :: decDigits p.a.toNat := by simp [textA, itoa_dec p.a (by omega)]
    rw [ht]
    have w := word_dec p.a.toNat
    have hl : ((76 :: 45 :: decDigits p.a.toNat).contains 76 && lastDayB (76 :: 45 :: decDigits p.a.toNat)) = true := by
      have hdg := digits_dec p.a.toNat
      have hpos := List.length_pos_iff.mpr (dec_ne p.a.toNat)
      unfold lastDayB
      simp [hdg]
      omega
    have hs : splitL (76 :: 45 :: decDigits p.a.toNat) 45 = [[76], decDigits p.a.toNat] := split_two (l := [76]) (by decide) (word_free w 45 (by decide))
    have hne : ¬ (76 :: 45 :: decDigits p.a.toNat = [76]) := by simp
    unfold domO
    rw [hl, if_pos rfl, if_neg hne, hs]
    simp only [atoi_dec p.a.toNat (by omega)]
    rw [within_true (by omega) (by omega), if_pos rfl]
    congr 2
    omega
  | closest k10 _ a1 a31 =>
    refine ⟨[p.a], ?_, fun h => by omega⟩
    rw [text_k 3 p (by omega)]
    have hd : p.dayN = 2 := by unfold PartV.dayN; rw [if_neg (by omega), if_neg (by omega), if_pos k10]
    rw [k10, hd]
    have ht : textA 3 10 p.a p.b p.s p.n = decDigits p.a.toNat ++ [87] := by simp [textA, itoa_dec p.a (by omega)]
    rw [ht]
    have w := word_dec p.a.toNat
    have hdg := dec_dig p.a.toNat
    have hf76 : (decDigits p.a.toNat ++ [87]).contains 76 = false := by
      have : (76 : UInt8) ∉ decDigits p.a.toNat := fun hm => absurd (hdg _ hm) (by decide)
      simpa using this
    have hf87 : (decDigits p.a.toNat ++ [87]).contains 87 = true := by simp
    have hne : ¬ (decDigits p.a.toNat ++ [87] = [76, 87]) := by
      intro e
      have : (76 : UInt8) ∈ decDigits p.a.toNat ++ [87] := by rw [e]; simp
      simp only [List.mem_append, List.mem_singleton] at this
      rcases this with hm | hm
      · exact absurd (hdg _ hm) (by decide)
      · revert hm; decide
    have hw : weekdayB (decDigits p.a.toNat ++ [87]) = true := by
      have hpos := List.length_pos_iff.mpr (dec_ne p.a.toNat)
      have := digits_dec p.a.toNat
      unfold weekdayB
      simp [this]
      omega
    unfold domO
    rw [hf76, hf87, Bool.false_and, if_neg (by decide), if_pos rfl, if_neg hne, hw, if_pos rfl, List.dropLast_concat]
    simp only [atoi_dec p.a.toNat (by omega)]
    rw [within_true (by omega) (by omega), if_pos rfl]
    congr 3
    omega
  | lastOf _ h5 => exact absurd h5 (by decide)
  | nth _ h5 => exact absurd h5 (by decide)

theorem dow_part {p : PartV} (h : p.rightB 5 = true) : ∃ zs, dowO dayN 1 7 (p.text 5) = some (zs, p.weekN) ∧ (p.k < 8 → zs = p.nums 5) := by
  have hn := right_n h
  cases right_case h with
  | common k8 k0 hc =>
    have hf : (76 : UInt8) ∉ p.text 5 ∧ ((5 : Nat) ≠ 5 → (87 : UInt8) ∉ p.text 5) := common_free (f := 5) (by decide) hn hc
    have h76 : (p.text 5).contains 76 = false := by simpa using hf.1
    have h35 : (p.text 5).contains 35 = false := by
      have : (35 : UInt8) ∉ p.text 5 := fun hm => ((common_ok hn hc).2 _ hm).2 rfl
      simpa using this
    have hr : fieldO dayN 1 7 (p.text 5) = some (p.nums 5) := field_common (f := 5) hn hc
    refine ⟨p.nums 5, ?_, fun _ => rfl⟩
    unfold dowO
    rw [h76, h35, hr]
    have : p.weekN = 0 := by unfold PartV.weekN; rw [if_neg (by omega), if_neg (by omega)]
    rw [this]
    rfl
  | last _ h3 => exact absurd h3 (by decide)
  | lastWork _ h3 => exact absurd h3 (by decide)
  | before _ h3 => exact absurd h3 (by decide)
  | closest _ h3 => exact absurd h3 (by decide)
  | lastOf k12 _ a1 a7 =>
    refine ⟨[p.a], ?_, fun h => by omega⟩
    rw [text_k 5 p (by omega)]
    have hd : p.weekN = -1 := by unfold PartV.weekN; rw [if_pos k12]
    rw [k12, hd]
    have ht : textA 5 12 p.a p.b p.s p.n = nameL 5 p.a p.n ++ [76] := by simp [textA]
    rw [ht]
    obtain ⟨r, w⟩ := name_reads 5 p.a p.n (by omega) (by omega) hn
    have hl : ((nameL 5 p.a p.n ++ [76]).contains 76 && lastWeekdayB (nameL 5 p.a p.n ++ [76])) = true := by
      unfold lastWeekdayB
      simp
      exact ⟨w.2, by decide⟩
    unfold dowO
    rw [hl, if_pos rfl, List.dropLast_concat, if_neg w.1]
    have r' : normalizeO dayN (nameL 5 p.a p.n) = some p.a := r
    rw [r']
    simp only
    rw [within_true (by omega) (by omega), if_pos rfl]
  | nth k13 _ a1 a7 b1 b5 =>
    refine ⟨[p.a], ?_, fun h => by omega⟩
    rw [text_k 5 p (by omega)]
    have hd : p.weekN = p.b := by unfold PartV.weekN; rw [if_neg (by omega), if_pos k13]
    rw [k13, hd]
    have ht : textA 5 13 p.a p.b p.s p.n = nameL 5 p.a p.n ++ 35 :: decDigits p.b.toNat := by simp [textA, itoa_dec p.b (by omega)]
    rw [ht]
    obtain ⟨r, w⟩ := name_reads 5 p.a p.n (by omega) (by omega) hn
    have hf := (name_free (f := 5) (by decide) (a := p.a) (n := p.n) (by omega) hn).1
    have hdg := dec_dig p.b.toNat
    have h76 : (nameL 5 p.a p.n ++ 35 :: decDigits p.b.toNat).contains 76 = false := by
      have : (76 : UInt8) ∉ decDigits p.b.toNat := fun hm => absurd (hdg _ hm) (by decide)
      simpa using ⟨hf, this⟩
    have hs : splitL (nameL 5 p.a p.n ++ 35 :: decDigits p.b.toNat) 35 = [nameL 5 p.a p.n, decDigits p.b.toNat] :=
      split_two (word_free w 35 (by decide)) (word_free (word_dec _) 35 (by decide))
    have hh : ((nameL 5 p.a p.n ++ 35 :: decDigits p.b.toNat).contains 35 && hashB (nameL 5 p.a p.n ++ 35 :: decDigits p.b.toNat)) = true := by
      have hpos := List.length_pos_iff.mpr w.1
      have hdd := digits_dec p.b.toNat
      unfold hashB
      rw [hs]
      simp [hdd, hpos]
      exact w.2
    unfold dowO
    rw [h76, hh, Bool.false_and, if_neg (by decide), if_pos rfl, hs]
    have r' : normalizeO dayN (nameL 5 p.a p.n) = some p.a := r
    simp only [r']
    rw [within_true (by omega) (by omega), if_pos rfl]
    simp only [atoi_dec p.b.toNat (by omega)]
    have e : ((p.b.toNat : Nat) : Int) = p.b := by omega
    rw [e, within_true (by omega) (by omega), if_pos rfl]

theorem field_part {f : Nat} {p : PartV} (h3 : f ≠ 3) (h5 : f ≠ 5) (h : p.rightB f = true) : fieldO (namesOf f) (leastF f) (hiP f) (p.text f) = some (p.nums f) := by
  have hn := right_n h
  cases right_case h with
  | common _ _ hc => exact field_common hn hc
  | last _ e => exact absurd e h3
  | lastWork _ e => exact absurd e h3
  | before _ e => exact absurd e h3
  | closest _ e => exact absurd e h3
  | lastOf _ e => exact absurd e h5
  | nth _ e => exact absurd e h5

/-- the letters of a part that is right -/
theorem part_chars {f : Nat} {p : PartV} (h : p.rightB f = true) : p.text f ≠ [] ∧ ∀ c ∈ p.text f, okC c := by
  have hn := right_n h
  have okw : ∀ {c : UInt8}, isWord c = true → okC c := fun h => .inl h
  have dig : ∀ {u : Nat} {c : UInt8}, c ∈ decDigits u → okC c := fun h => .inl (dig_word (dec_dig _ _ h))
  cases right_case h with
  | common _ _ hc =>
    have := common_ok hn hc
    exact ⟨this.1, fun c hc => (this.2 c hc).1⟩
  | last k _ =>
    rw [text_k f p (by omega), k]
    exact ⟨by simp [textA], fun c hc => by simp [textA] at hc; subst hc; exact okw (by decide)⟩
  | lastWork k _ =>
    rw [text_k f p (by omega), k]
    refine ⟨by simp [textA], fun c hc => ?_⟩
    simp [textA] at hc
    rcases hc with rfl | rfl <;> exact okw (by decide)
  | before k _ a1 _ =>
    rw [text_k f p (by omega), k]
    refine ⟨by simp [textA], fun c hc => ?_⟩
    simp [textA, itoa_dec p.a (by omega)] at hc
    rcases hc with rfl | rfl | hc
    · exact okw (by decide)
    · unfold okC; simp
    · exact dig hc
  | closest k _ a1 _ =>
    rw [text_k f p (by omega), k]
    refine ⟨by simp [textA], fun c hc => ?_⟩
    simp [textA, itoa_dec p.a (by omega)] at hc
    rcases hc with hc | rfl
    · exact dig hc
    · exact okw (by decide)
  | lastOf k _ a1 a7 =>
    rw [text_k f p (by omega), k]
    obtain ⟨_, w⟩ := name_reads f p.a p.n (by omega) (by omega) hn
    refine ⟨by simp [textA], fun c hc => ?_⟩
    simp [textA] at hc
    rcases hc with hc | rfl
    · exact okw (w.2 c hc)
    · exact okw (by decide)
  | nth k _ a1 a7 b1 b5 =>
    rw [text_k f p (by omega), k]
    obtain ⟨_, w⟩ := name_reads f p.a p.n (by omega) (by omega) hn
    refine ⟨by simp [textA], fun c hc => ?_⟩
    simp [textA, itoa_dec p.b (by omega)] at hc
    rcases hc with hc | rfl | hc
    · exact okw (w.2 c hc)
    · unfold okC; simp
    · exact dig hc
end Go.Proofs.YtmaffdhcmdhjfaaGreatDoor
