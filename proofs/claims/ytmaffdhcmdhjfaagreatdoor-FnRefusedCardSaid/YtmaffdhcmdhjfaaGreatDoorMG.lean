/- The plain law of an expression's text, fourth part: the fields of days, and the expression as a whole. The plain law of an expression's text, fifth part: white space; the expression as a whole. laws.FnFields returns true. spec.gap, Spaced. spec.Spaced; its plain law. The plain law of white space of one's own. -/
import Derived.Test.YtmaffdhcmdhjfaaGreatDoorMF
import Derived.Deep.RegionHeld3
namespace Go.Proofs.YtmaffdhcmdhjfaaGreatDoor
open Go.RowKit Go.Lib

inductive RightCase (f : Nat) (p : PartV) : Prop where
  | common : p.k < 8 → 0 ≤ p.k → Common f p.k p.a p.b p.s p.items → RightCase f p
  | last : p.k = 8 → f = 3 → RightCase f p
  | lastWork : p.k = 11 → f = 3 → RightCase f p
  | before : p.k = 9 → f = 3 → 1 ≤ p.a → p.a ≤ 31 → RightCase f p
  | closest : p.k = 10 → f = 3 → 1 ≤ p.a → p.a ≤ 31 → RightCase f p
  | lastOf : p.k = 12 → f = 5 → 1 ≤ p.a → p.a ≤ 7 → RightCase f p
  | nth : p.k = 13 → f = 5 → 1 ≤ p.a → p.a ≤ 7 → 1 ≤ p.b → p.b ≤ 5 → RightCase f p

theorem right_case {f : Nat} {p : PartV} (h : p.rightB f = true) : RightCase f p := by
  have hli := right_items h
  unfold PartV.rightB YtmaffdhcmdhjfaaGreatDoor.rightB at h
  by_cases hn0 : p.n < 0
  · rw [if_pos hn0] at h; cases h
  by_cases hn2 : 2 < p.n
  · rw [if_neg hn0, if_pos hn2] at h; cases h
  rw [if_neg hn0, if_neg hn2] at h
  by_cases k0 : p.k = 0
  · exact .common (by omega) (by omega) (.plain (by omega) (by unfold plainB; simp [k0]))
  by_cases k1 : p.k = 1
  · exact .common (by omega) (by omega) (.plain (by omega) (by unfold plainB; simp [k1]))
  by_cases k7 : p.k = 7
  · exact .common (by omega) (by omega) (.list k7 (hli k7).1)
  rw [if_neg k0, if_neg k1, if_neg k7] at h
  by_cases k8 : p.k = 8
  · rw [if_pos k8] at h; exact .last k8 (by simpa using h)
  by_cases k11 : p.k = 11
  · rw [if_neg k8, if_pos k11] at h; exact .lastWork k11 (by simpa using h)
  by_cases k9 : p.k = 9
  · rw [if_neg k8, if_neg k11, if_pos k9] at h
    simp only [Bool.and_eq_true, decide_eq_true_eq] at h
    exact .before k9 h.1.1 h.1.2 h.2
  by_cases k10 : p.k = 10
  · rw [if_neg k8, if_neg k11, if_neg k9, if_pos k10] at h
    simp only [Bool.and_eq_true, decide_eq_true_eq] at h
    exact .closest k10 h.1.1 h.1.2 h.2
  by_cases k12 : p.k = 12
  · rw [if_neg k8, if_neg k11, if_neg k9, if_neg k10, if_pos k12] at h
    simp only [Bool.and_eq_true, decide_eq_true_eq] at h
    exact .lastOf k12 h.1.1 h.1.2 h.2
  by_cases k13 : p.k = 13
  · rw [if_neg k8, if_neg k11, if_neg k9, if_neg k10, if_neg k12, if_pos k13] at h
    simp only [Bool.and_eq_true, decide_eq_true_eq] at h
    exact .nth k13 h.1.1.1.1 h.1.1.1.2 h.1.1.2 h.1.2 h.2
  rw [if_neg k8, if_neg k11, if_neg k9, if_neg k10, if_neg k12, if_neg k13] at h
  have hs : Simple f p.k p.a p.b p.s p.n := ⟨h, by omega⟩
  have hk := hs.kind
  exact .common (by omega) (by omega) (.plain k7 (by unfold plainB; rw [h]; simp))

theorem right_n {f : Nat} {p : PartV} (h : p.rightB f = true) : p.n = 0 ∨ p.n = 1 ∨ p.n = 2 := (right_plain h).1

theorem text_k (f : Nat) (p : PartV) (h7 : p.k ≠ 7) : p.text f = textA f p.k p.a p.b p.s p.n := by unfold PartV.text textP; rw [if_neg h7]

theorem digits_dec (u : Nat) : digitsB (decDigits u) = true := by
  unfold digitsB
  rw [Bool.and_eq_true, List.all_eq_true]
  refine ⟨dec_dig u, ?_⟩
  have := dec_ne u
  rw [decide_eq_true_eq]
  exact List.length_pos_iff.mpr this

theorem dom_part {p : PartV} (h : p.rightB 3 = true) : ∃ zs, domO [] 1 31 (p.text 3) = some (zs, p.dayN) ∧ (p.k < 8 → zs = p.nums 3) := by
  have hn := right_n h
  cases right_case h with
  | common k8 k0 hc =>
    have hf : (76 : UInt8) ∉ p.text 3 ∧ ((3 : Nat) ≠ 5 → (87 : UInt8) ∉ p.text 3) := common_free (f := 3) (by decide) hn hc
    have h76 : (p.text 3).contains 76 = false := by simpa using hf.1
    have h87 : (p.text 3).contains 87 = false := by simpa using hf.2 (by decide)
    have hr : fieldO [] 1 31 (p.text 3) = some (p.nums 3) := field_common (f := 3) hn hc
    refine ⟨p.nums 3, ?_, fun _ => rfl⟩
    unfold domO
    rw [h76, h87, hr]
    have : p.dayN = 0 := by unfold PartV.dayN; rw [if_neg (by omega), if_neg (by omega), if_neg (by omega), if_neg (by omega)]
    rw [this]
    rfl
  | last k8 _ =>
    refine ⟨[], ?_, fun h => by omega⟩
    rw [text_k 3 p (by omega)]
    have : p.dayN = 1 := by unfold PartV.dayN; rw [if_pos k8]
    rw [k8, this]
    rfl
  | lastWork k11 _ =>
    refine ⟨[0], ?_, fun h => by omega⟩
    rw [text_k 3 p (by omega)]
    have : p.dayN = 3 := by unfold PartV.dayN; rw [if_neg (by omega), if_neg (by omega), if_neg (by omega), if_pos k11]
    rw [k11, this]
    rfl
  | before k9 _ a1 a31 =>
    refine ⟨[], ?_, fun h => by omega⟩
    rw [text_k 3 p (by omega)]
    have hd : p.dayN = -p.a := by unfold PartV.dayN; rw [if_neg (by omega), if_pos k9]
    rw [k9, hd]
    have ht : textA 3 9 p.a p.b p.s p.n = 76 :: 45 :: decDigits p.a.toNat := by simp [textA, itoa_dec p.a (by omega)]
    rw [ht]
    have w := word_dec p.a.toNat
    have hl : ((76 :: 45 :: decDigits p.a.toNat).contains 76 && lastDayB (76 :: 45 :: decDigits p.a.toNat)) = true := by
      have hdg := digits_dec p.a.toNat
      have hpos := List.length_pos_iff.mpr (dec_ne p.a.toNat)
      unfold lastDayB
      simp [hdg]
      omega
    have hs : splitL (76 :: 45 :: decDigits p.a.toNat) 45 = [[76], decDigits p.a.toNat] := split_two (l := [76]) (by decide) (word_free w 45 (by decide))
    have hne : ¬ (76 :: 45 :: decDigits p.a.toNat = [76]) := by simp
    unfold domO
    rw [hl, if_pos rfl, if_neg hne, hs]
    simp only [atoi_dec p.a.toNat (by omega)]
    rw [within_true (by omega) (by omega), if_pos rfl]
    congr 2
    omega
  | closest k10 _ a1 a31 =>
    refine ⟨[p.a], ?_, fun h => by omega⟩
    rw [text_k 3 p (by omega)]
    have hd : p.dayN = 2 := by unfold PartV.dayN; rw [if_neg (by omega), if_neg (by omega), if_pos k10]
    rw [k10, hd]
    have ht : textA 3 10 p.a p.b p.s p.n = decDigits p.a.toNat ++ [87] := by simp [textA, itoa_dec p.a (by omega)]
    rw [ht]
    have w := word_dec p.a.toNat
    have hdg := dec_dig p.a.toNat
    have hf76 : (decDigits p.a.toNat ++ [87]).contains 76 = false := by
      have : (76 : UInt8) ∉ decDigits p.a.toNat := fun hm => absurd (hdg _ hm) (by decide)
      simpa using this
    have hf87 : (decDigits p.a.toNat ++ [87]).contains 87 = true := by simp
    have hne : ¬ (decDigits p.a.toNat ++ [87] = [76, 87]) := by
      intro e
      have : (76 : UInt8) ∈ decDigits p.a.toNat ++ [87] := by rw [e]; simp
      simp only [List.mem_append, List.mem_singleton] at this
      rcases this with hm | hm
      · exact absurd (hdg _ hm) (by decide)
      · revert hm; decide
    have hw : weekdayB (decDigits p.a.toNat ++ [87]) = true := by
      have hpos := List.length_pos_iff.mpr (dec_ne p.a.toNat)
      have := digits_dec p.a.toNat
      unfold weekdayB
      simp [this]
      omega
    unfold domO
    rw [hf76, hf87, Bool.false_and, if_neg (by decide), if_pos rfl, if_neg hne, hw, if_pos rfl, List.dropLast_concat]
    simp only [atoi_dec p.a.toNat (by omega)]
    rw [within_true (by omega) (by omega), if_pos rfl]
    congr 3
    omega
  | lastOf _ h5 => exact absurd h5 (by decide)
  | nth _ h5 => exact absurd h5 (by decide)

theorem dow_part {p : PartV} (h : p.rightB 5 = true) : ∃ zs, dowO dayN 1 7 (p.text 5) = some (zs, p.weekN) ∧ (p.k < 8 → zs = p.nums 5) := by
  have hn := right_n h
  cases right_case h with
  | common k8 k0 hc =>
    have hf : (76 : UInt8) ∉ p.text 5 ∧ ((5 : Nat) ≠ 5 → (87 : UInt8) ∉ p.text 5) := common_free (f := 5) (by decide) hn hc
    have h76 : (p.text 5).contains 76 = false := by simpa using hf.1
    have h35 : (p.text 5).contains 35 = false := by
      have : (35 : UInt8) ∉ p.text 5 := fun hm => ((common_ok hn hc).2 _ hm).2 rfl
      simpa using this
    have hr : fieldO dayN 1 7 (p.text 5) = some (p.nums 5) := field_common (f := 5) hn hc
    refine ⟨p.nums 5, ?_, fun _ => rfl⟩
    unfold dowO
    rw [h76, h35, hr]
    have : p.weekN = 0 := by unfold PartV.weekN; rw [if_neg (by omega), if_neg (by omega)]
    rw [this]
    rfl
  | last _ h3 => exact absurd h3 (by decide)
  | lastWork _ h3 => exact absurd h3 (by decide)
  | before _ h3 => exact absurd h3 (by decide)
  | closest _ h3 => exact absurd h3 (by decide)
  | lastOf k12 _ a1 a7 =>
    refine ⟨[p.a], ?_, fun h => by omega⟩
    rw [text_k 5 p (by omega)]
    have hd : p.weekN = -1 := by unfold PartV.weekN; rw [if_pos k12]
    rw [k12, hd]
    have ht : textA 5 12 p.a p.b p.s p.n = nameL 5 p.a p.n ++ [76] := by simp [textA]
    rw [ht]
    obtain ⟨r, w⟩ := name_reads 5 p.a p.n (by omega) (by omega) hn
    have hl : ((nameL 5 p.a p.n ++ [76]).contains 76 && lastWeekdayB (nameL 5 p.a p.n ++ [76])) = true := by
      unfold lastWeekdayB
      simp
      exact ⟨w.2, by decide⟩
    unfold dowO
    rw [hl, if_pos rfl, List.dropLast_concat, if_neg w.1]
    have r' : normalizeO dayN (nameL 5 p.a p.n) = some p.a := r
    rw [r']
    simp only
    rw [within_true (by omega) (by omega), if_pos rfl]
  | nth k13 _ a1 a7 b1 b5 =>
    refine ⟨[p.a], ?_, fun h => by omega⟩
    rw [text_k 5 p (by omega)]
    have hd : p.weekN = p.b := by unfold PartV.weekN; rw [if_neg (by omega), if_pos k13]
    rw [k13, hd]
    have ht : textA 5 13 p.a p.b p.s p.n = nameL 5 p.a p.n ++ 35 :: decDigits p.b.toNat := by simp [textA, itoa_dec p.b (by omega)]
    rw [ht]
    obtain ⟨r, w⟩ := name_reads 5 p.a p.n (by omega) (by omega) hn
    have hf := (name_free (f := 5) (by decide) (a := p.a) (n := p.n) (by omega) hn).1
    have hdg := dec_dig p.b.toNat
    have h76 : (nameL 5 p.a p.n ++ 35 :: decDigits p.b.toNat).contains 76 = false := by
      have : (76 : UInt8) ∉ decDigits p.b.toNat := fun hm => absurd (hdg _ hm) (by decide)
      simpa using ⟨hf, this⟩
    have hs : splitL (nameL 5 p.a p.n ++ 35 :: decDigits p.b.toNat) 35 = [nameL 5 p.a p.n, decDigits p.b.toNat] :=
      split_two (word_free w 35 (by decide)) (word_free (word_dec _) 35 (by decide))
    have hh : ((nameL 5 p.a p.n ++ 35 :: decDigits p.b.toNat).contains 35 && hashB (nameL 5 p.a p.n ++ 35 :: decDigits p.b.toNat)) = true := by
      have hpos := List.length_pos_iff.mpr w.1
      have hdd := digits_dec p.b.toNat
      unfold hashB
      rw [hs]
      simp [hdd, hpos]
      exact w.2
    unfold dowO
    rw [h76, hh, Bool.false_and, if_neg (by decide), if_pos rfl, hs]
    have r' : normalizeO dayN (nameL 5 p.a p.n) = some p.a := r
    simp only [r']
    rw [within_true (by omega) (by omega), if_pos rfl]
    simp only [atoi_dec p.b.toNat (by omega)]
    have e : ((p.b.toNat : Nat) : Int) = p.b := by omega
    rw [e, within_true (by omega) (by omega), if_pos rfl]

theorem field_part {f : Nat} {p : PartV} (h3 : f ≠ 3) (h5 : f ≠ 5) (h : p.rightB f = true) : fieldO (namesOf f) (leastF f) (hiP f) (p.text f) = some (p.nums f) := by
  have hn := right_n h
  cases right_case h with
  | common _ _ hc => exact field_common hn hc
  | last _ e => exact absurd e h3
  | lastWork _ e => exact absurd e h3
  | before _ e => exact absurd e h3
  | closest _ e => exact absurd e h3
  | lastOf _ e => exact absurd e h5
  | nth _ e => exact absurd e h5

/-- the letters of a part that is right -/
theorem part_chars {f : Nat} {p : PartV} (h : p.rightB f = true) : p.text f ≠ [] ∧ ∀ c ∈ p.text f, okC c := by
  have hn := right_n h
  have okw : ∀ {c : UInt8}, isWord c = true → okC c := fun h => .inl h
  have dig : ∀ {u : Nat} {c : UInt8}, c ∈ decDigits u → okC c := fun h => .inl (dig_word (dec_dig _ _ h))
  cases right_case h with
  | common _ _ hc =>
    have := common_ok hn hc
    exact ⟨this.1, fun c hc => (this.2 c hc).1⟩
  | last k _ =>
    rw [text_k f p (by omega), k]
    exact ⟨by simp [textA], fun c hc => by simp [textA] at hc; subst hc; exact okw (by decide)⟩
  | lastWork k _ =>
    rw [text_k f p (by omega), k]
    refine ⟨by simp [textA], fun c hc => ?_⟩
    simp [textA] at hc
    rcases hc with rfl | rfl <;> exact okw (by decide)
  | before k _ a1 _ =>
    rw [text_k f p (by omega), k]
    refine ⟨by simp [textA], fun c hc => ?_⟩
    simp [textA, itoa_dec p.a (by omega)] at hc
    rcases hc with rfl | rfl | hc
    · exact okw (by decide)
    · unfold okC; simp
    · exact dig hc
  | closest k _ a1 _ =>
    rw [text_k f p (by omega), k]
    refine ⟨by simp [textA], fun c hc => ?_⟩
    simp [textA, itoa_dec p.a (by omega)] at hc
    rcases hc with hc | rfl
    · exact dig hc
    · exact okw (by decide)
  | lastOf k _ a1 a7 =>
    rw [text_k f p (by omega), k]
    obtain ⟨_, w⟩ := name_reads f p.a p.n (by omega) (by omega) hn
    refine ⟨by simp [textA], fun c hc => ?_⟩
    simp [textA] at hc
    rcases hc with hc | rfl
    · exact okw (w.2 c hc)
    · exact okw (by decide)
  | nth k _ a1 a7 b1 b5 =>
    rw [text_k f p (by omega), k]
    obtain ⟨_, w⟩ := name_reads f p.a p.n (by omega) (by omega) hn
    refine ⟨by simp [textA], fun c hc => ?_⟩
    simp [textA, itoa_dec p.b (by omega)] at hc
    rcases hc with hc | rfl | hc
    · exact okw (w.2 c hc)
    · unfold okC; simp
    · exact dig hc
end Go.Proofs.YtmaffdhcmdhjfaaGreatDoor
namespace Go.Proofs.YtmaffdhcmdhjfaaGreatDoor
open Go.RowKit Go.Lib

structure WordC (l : List UInt8) : Prop where
  ne : l ≠ []
  ws : ∀ c ∈ l, isWs c = false
  sp : ∀ c ∈ l, YtmaffdhcmdhjfaaGreatDoor.sp c = false
def GapC (l : List UInt8) : Prop := ∀ c ∈ l, isWs c = true

theorem fold_word : ∀ (x out : List UInt8), (∀ c ∈ x, isWs c = false) → x.foldl colStep out = out ++ x
  | [], out, _ => by simp
  | c :: r, out, h => by
    have e : colStep out c = out ++ [c] := by unfold colStep; rw [h c (by simp)]; simp
    rw [List.foldl_cons, e, fold_word r _ (fun d hd => h d (by simp [hd]))]
    simp
theorem col_ws {out : List UInt8} {c : UInt8} (h : isWs c = true) : colStep out c = if out.getLast? = some 32 then out else out ++ [32] := by unfold colStep; rw [h]; simp
theorem fold_gap_last : ∀ (x out : List UInt8), GapC x → out.getLast? = some 32 → x.foldl colStep out = out
  | [], out, _, _ => rfl
  | c :: r, out, h, hl => by
    rw [List.foldl_cons, col_ws (h c (by simp)), if_pos hl]
    exact fold_gap_last r out (fun d hd => h d (by simp [hd])) hl
theorem fold_gap {x out : List UInt8} (h : GapC x) (hne : x ≠ []) (hl : out.getLast? ≠ some 32) : x.foldl colStep out = out ++ [32] := by
  obtain ⟨c, r, rfl⟩ := List.exists_cons_of_ne_nil hne
  rw [List.foldl_cons, col_ws (h c (by simp)), if_neg hl]
  exact fold_gap_last r _ (fun d hd => h d (by simp [hd])) (by simp)

theorem last_word {x out : List UInt8} (h : WordC x) : (out ++ x).getLast? ≠ some 32 := by
  obtain ⟨y, c, rfl⟩ : ∃ y c, x = y ++ [c] := ⟨x.dropLast, x.getLast h.ne, (List.dropLast_concat_getLast h.ne).symm⟩
  intro e
  rw [← List.append_assoc, List.getLast?_concat] at e
  injection e with e
  subst e
  have := h.ws 32 (by simp)
  revert this; decide

/-- words with gaps ahead of them -/
def spread : List (List UInt8 × List UInt8) → List UInt8
  | [] => []
  | (g, x) :: r => g ++ (x ++ spread r)
def tails (xs : List (List UInt8)) : List UInt8 := xs.flatMap fun x => 32 :: x
theorem joinL_tails (x : List UInt8) : ∀ xs : List (List UInt8), joinL 32 (x :: xs) = x ++ tails xs
  | [] => by simp [joinL, tails]
  | y :: r => by
    show x ++ 32 :: joinL 32 (y :: r) = _
    rw [joinL_tails y r]
    simp [tails]

theorem fold_spread : ∀ (r : List (List UInt8 × List UInt8)) (out : List UInt8), (∀ p ∈ r, GapC p.1 ∧ p.1 ≠ [] ∧ WordC p.2) → out.getLast? ≠ some 32 →
    (spread r).foldl colStep out = out ++ tails (r.map (·.2)) ∧ (out ++ tails (r.map (·.2))).getLast? ≠ some 32
  | [], out, _, hl => by simpa [spread, tails] using hl
  | (g, x) :: r, out, h, hl => by
    obtain ⟨h1, h2, h3⟩ := h (g, x) (by simp)
    have e : (spread ((g, x) :: r)).foldl colStep out = (spread r).foldl colStep ((out ++ [32]) ++ x) := by
      show (g ++ (x ++ spread r)).foldl colStep out = _
      rw [List.foldl_append, List.foldl_append, fold_gap h1 h2 hl, fold_word x _ h3.ws]
    obtain ⟨k1, k2⟩ := fold_spread r ((out ++ [32]) ++ x) (fun p hp => h p (by simp [hp])) (last_word h3)
    rw [e, k1]
    have e2 : (out ++ [32]) ++ x ++ tails (r.map (·.2)) = out ++ tails (((g, x) :: r).map (·.2)) := by simp [tails]
    rw [e2] at k2 ⊢
    exact ⟨rfl, k2⟩

theorem drop_sp {pre t : List UInt8} (hp : ∀ c ∈ pre, sp c = true) (ht : ∀ c, t.head? = some c → sp c = false) : (pre ++ t).dropWhile sp = t := by
  induction pre with
  | nil =>
    cases t with
    | nil => rfl
    | cons c r =>
      have := ht c rfl
      simp [List.dropWhile_cons, this]
  | cons c r ih =>
    rw [List.cons_append, List.dropWhile_cons, if_pos (hp c (by simp))]
    exact ih (fun d hd => hp d (by simp [hd]))

/-- white space between words counts as one blank, ahead and behind as none -/
theorem trim_spread {g0 x0 gn : List UInt8} {r : List (List UInt8 × List UInt8)} (h0 : GapC g0) (hx : WordC x0) (hn : GapC gn) (hr : ∀ p ∈ r, GapC p.1 ∧ p.1 ≠ [] ∧ WordC p.2) :
    trimL (g0 ++ (x0 ++ (spread r ++ gn))) = joinL 32 (x0 :: r.map (·.2)) := by
  obtain ⟨pre, hpre, hp⟩ : ∃ pre, g0.foldl colStep [] = pre ∧ ∀ c ∈ pre, sp c = true := by
    by_cases h : g0 = []
    · exact ⟨[], by rw [h]; rfl, by simp⟩
    · exact ⟨[32], by rw [fold_gap h0 h (by simp)]; rfl, by simp; decide⟩
  rw [joinL_tails]
  obtain ⟨T, hT⟩ : ∃ T, T = x0 ++ tails (r.map (·.2)) := ⟨_, rfl⟩
  obtain ⟨k1, k2⟩ := fold_spread r (pre ++ x0) hr (last_word hx)
  have eT : pre ++ x0 ++ tails (r.map (·.2)) = pre ++ T := by rw [hT]; simp
  obtain ⟨post, hpost, hq⟩ : ∃ post, gn.foldl colStep (pre ++ T) = pre ++ (T ++ post) ∧ ∀ c ∈ post, sp c = true := by
    by_cases h : gn = []
    · exact ⟨[], by rw [h]; simp, by simp⟩
    · refine ⟨[32], ?_, by simp; decide⟩
      rw [fold_gap hn h (by rw [← eT]; exact k2)]
      simp
  have hc : collapse (g0 ++ (x0 ++ (spread r ++ gn))) = pre ++ (T ++ post) := by
    unfold collapse
    rw [List.foldl_append, List.foldl_append, List.foldl_append, hpre, fold_word x0 _ hx.ws, k1, eT, hpost]
  have hlast : ∀ c, T.getLast? = some c → sp c = false := by
    intro c hcl
    rcases List.eq_nil_or_concat (r.map (·.2)) with he | ⟨ys, y, he⟩
    · rw [hT, he] at hcl
      simp [tails] at hcl
      exact hx.sp c (List.mem_of_getLast? hcl)
    · have hy : WordC y := by
        have : y ∈ r.map (·.2) := by rw [he]; simp
        simp only [List.mem_map] at this
        obtain ⟨p, hp1, rfl⟩ := this
        exact (hr p hp1).2.2
      obtain ⟨z, d, hz⟩ : ∃ z d, y = z ++ [d] := ⟨y.dropLast, y.getLast hy.ne, (List.dropLast_concat_getLast hy.ne).symm⟩
      have e : T = (x0 ++ tails ys ++ 32 :: z) ++ [d] := by rw [hT, he, hz]; simp [tails]
      rw [e, List.getLast?_concat] at hcl
      injection hcl with hcl
      subst hcl
      exact hy.sp _ (by rw [hz]; simp)
  have hhead : ∀ c, (T ++ post).head? = some c → sp c = false := by
    intro c hch
    obtain ⟨d, q, hd⟩ := List.exists_cons_of_ne_nil hx.ne
    rw [hT, hd] at hch
    simp at hch
    subst hch
    exact hx.sp _ (by rw [hd]; simp)
  unfold trimL
  rw [hc]
  unfold stripF
  rw [drop_sp hp hhead]
  unfold stripB
  rw [List.reverse_append, drop_sp (fun c hc => hq c (by simpa using hc)) (fun c hc => hlast c (by rwa [List.head?_reverse] at hc)), List.reverse_reverse, hT]

theorem okC_ascii {c : UInt8} (h : okC c) : c.toNat ≤ 127 ∧ isWs c = false ∧ sp c = false ∧ c ≠ 64 ∧ c ≠ 32 := by
  have hw : isWord c = true → c.toNat ≤ 122 ∧ 48 ≤ c.toNat ∧ c.toNat ≠ 64 := by
    intro h
    unfold isWord at h
    simp at h
    omega
  have key : ∀ d : UInt8, c = d → c.toNat = d.toNat := fun d e => by rw [e]
  rcases h with h | rfl | rfl | rfl | rfl | rfl | rfl
  · obtain ⟨h1, h2, h3⟩ := hw h
    have hne : ∀ d : UInt8, d.toNat < 48 → c ≠ d := fun d hd e => by rw [e] at h2; omega
    refine ⟨by omega, ?_, ?_, ?_, hne 32 (by decide)⟩
    · unfold isWs
      simp [hne 32 (by decide), hne 9 (by decide), hne 10 (by decide), hne 12 (by decide), hne 13 (by decide)]
    · unfold sp
      simp [hne 32 (by decide), hne 11 (by decide)]
    · intro e; rw [e] at h3; exact h3 rfl
  all_goals exact ⟨by decide, by decide, by decide, by decide, by decide⟩

theorem part_word {f : Nat} {p : PartV} (h : p.rightB f = true) : WordC (p.text f) := by
  obtain ⟨h1, h2⟩ := part_chars h
  exact ⟨h1, fun c hc => (okC_ascii (h2 c hc)).2.1, fun c hc => (okC_ascii (h2 c hc)).2.2.1⟩

def CronV.last (c : CronV) : Nat := if c.six then 6 else 7
theorem last_le (c : CronV) : c.last ≤ 7 ∧ 6 ≤ c.last := by unfold CronV.last; split <;> omega

theorem parts_words {c : CronV} (h : c.allB 7 = true) : ∀ x ∈ c.parts c.last, WordC x := by
  intro x hx
  simp only [CronV.parts, List.mem_map, List.mem_range] at hx
  obtain ⟨j, hj, rfl⟩ := hx
  have := last_le c
  exact part_word (all_right h j (by omega))
theorem parts_chars {c : CronV} (h : c.allB 7 = true) : ∀ x ∈ c.parts c.last, ∀ d ∈ x, okC d := by
  intro x hx
  simp only [CronV.parts, List.mem_map, List.mem_range] at hx
  obtain ⟨j, hj, rfl⟩ := hx
  have := last_le c
  exact (part_chars (all_right h j (by omega))).2

theorem text_eq (c : CronV) : c.text = joinL 32 (c.parts c.last) := rfl

theorem text_chars {c : CronV} (h : c.allB 7 = true) : ∀ d ∈ c.text, d = 32 ∨ okC d := by
  intro d hd
  rw [text_eq] at hd
  rcases join_mem _ _ _ hd with e | ⟨x, hx, e⟩
  · exact .inl e
  · exact .inr (parts_chars h x hx d e)

theorem parts_cons (c : CronV) : c.parts c.last = (c.p 0).text 0 :: (c.p 1).text 1 :: (c.p 2).text 2 :: (c.p 3).text 3 :: (c.p 4).text 4 :: (c.p 5).text 5 :: (if c.six then [] else [(c.p 6).text 6]) := by
  unfold CronV.last
  cases c.six <;> rfl

/-- the parse of the fields' texts -/
theorem build_right {c : CronV} (h : c.allB 7 = true) (ht : toldK (c.p 3).k = false ∨ toldK (c.p 5).k = false) :
    ∃ fs, cronT (withYear (c.parts c.last)) = some fs ∧ fs.length = 7 ∧ fs[3]?.map (·.2) = some (c.p 3).dayN ∧ fs[5]?.map (·.2) = some (c.p 5).weekN ∧
      ∀ i, i < 7 → (c.p i).k < 8 → fs[i]?.map (·.1) = some (c.numsAt i) := by
  have r := fun j hj => all_right h j hj
  have f0 : fieldO [] 0 59 ((c.p 0).text 0) = some ((c.p 0).nums 0) := field_part (f := 0) (by decide) (by decide) (r 0 (by decide))
  have f1 : fieldO [] 0 59 ((c.p 1).text 1) = some ((c.p 1).nums 1) := field_part (f := 1) (by decide) (by decide) (r 1 (by decide))
  have f2 : fieldO [] 0 23 ((c.p 2).text 2) = some ((c.p 2).nums 2) := field_part (f := 2) (by decide) (by decide) (r 2 (by decide))
  have f4 : fieldO monthN 1 12 ((c.p 4).text 4) = some ((c.p 4).nums 4) := field_part (f := 4) (by decide) (by decide) (r 4 (by decide))
  have f6 : fieldO [] 1970 3940 ((c.p 6).text 6) = some ((c.p 6).nums 6) := field_part (f := 6) (by decide) (by decide) (r 6 (by decide))
  obtain ⟨z3, f3, e3⟩ := dom_part (r 3 (by decide))
  obtain ⟨z5, f5, e5⟩ := dow_part (r 5 (by decide))
  have told : ∀ (j : Nat), (hj : j < 7) → toldK (c.p j).k = false → toldB ((c.p j).text j) = false := by
    intro j hj hk
    unfold toldK at hk
    simp at hk
    have h7 : (c.p j).k ≠ 7 := by
      intro e
      have := hk (by omega)
      omega
    rw [text_k j _ h7]
    by_cases h0 : (c.p j).k = 0
    · rw [h0]; simp [textA, toldB]
    · have h1 := hk h0
      rw [h1]; simp [textA, toldB]
  have htb : (toldB ((c.p 3).text 3) && toldB ((c.p 5).text 5)) = false := by
    rcases ht with ht | ht
    · rw [told 3 (by decide) ht]; rfl
    · rw [told 5 (by decide) ht]; simp
  have hy : withYear (c.parts c.last) = [(c.p 0).text 0, (c.p 1).text 1, (c.p 2).text 2, (c.p 3).text 3, (c.p 4).text 4, (c.p 5).text 5, if c.six then [42] else (c.p 6).text 6] := by
    rw [parts_cons]
    unfold withYear
    cases c.six <;> simp
  have f6' : fieldO [] 1970 3940 (if c.six then [42] else (c.p 6).text 6) = some (c.numsAt 6) := by
    have e6 : c.numsAt 6 = if c.six = true then [] else (c.p 6).nums 6 := by
      unfold CronV.numsAt
      simp
    rw [e6]
    cases hs : c.six
    · rw [if_neg (by decide), if_neg (by decide)]; exact f6
    · rw [if_pos rfl, if_pos rfl]; rfl
  refine ⟨[((c.p 0).nums 0, 0), ((c.p 1).nums 1, 0), ((c.p 2).nums 2, 0), (z3, (c.p 3).dayN), ((c.p 4).nums 4, 0), (z5.map dec1, (c.p 5).weekN), (c.numsAt 6, 0)], ?_, rfl, rfl, rfl, ?_⟩
  · rw [hy]
    unfold cronT
    simp only [htb, Bool.false_eq_true, if_false]
    unfold buildO
    simp only [f0, f1, f2, f3, f4, f5, f6']
  · intro i hi hk
    have hn : ∀ j, j ≠ 5 → j ≠ 6 → c.numsAt j = (c.p j).nums j := fun j h5 h6 => by unfold CronV.numsAt; rw [if_neg h5, if_neg (by rintro ⟨e, _⟩; exact h6 e)]
    rcases lt7 hi with rfl | rfl | rfl | rfl | rfl | rfl | rfl
    · rw [hn 0 (by decide) (by decide)]; rfl
    · rw [hn 1 (by decide) (by decide)]; rfl
    · rw [hn 2 (by decide) (by decide)]; rfl
    · rw [hn 3 (by decide) (by decide), ← e3 hk]; rfl
    · rw [hn 4 (by decide) (by decide)]; rfl
    · have : c.numsAt 5 = ((c.p 5).nums 5).map dec1 := by unfold CronV.numsAt; rw [if_pos rfl]
      rw [this, ← e5 hk]; rfl
    · rfl

theorem special_none {l : List UInt8} (h : ∀ c, l.head? = some c → c ≠ 64) : specialO l = none := by
  unfold specialO
  rw [if_neg (by intro e; rw [e] at h; exact h 64 rfl rfl), if_neg (by intro e; rw [e] at h; exact h 64 rfl rfl), if_neg (by intro e; rw [e] at h; exact h 64 rfl rfl), if_neg (by intro e; rw [e] at h; exact h 64 rfl rfl), if_neg (by intro e; rw [e] at h; exact h 64 rfl rfl)]

theorem parse_text {c : CronV} (h : c.allB 7 = true) : parseO c.text = cronT (withYear (c.parts c.last)) := by
  have hs : specialO c.text = none := by
    refine special_none fun d hd => ?_
    rcases text_chars h d (List.mem_of_head? hd) with e | e
    · rw [e]; decide
    · exact (okC_ascii e).2.2.2.1
  unfold parseO tokens
  rw [hs, Option.getD_none, text_eq, split_join 32 _ (by rw [parts_cons]; simp) (fun x hx hm => (okC_ascii (parts_chars h x hx 32 hm)).2.2.2.2 rfl)]

/-- an expression spread out by gaps -/
def spaced (g : Nat → List UInt8) (xs : List (List UInt8)) : Nat → List (List UInt8 × List UInt8) := fun k => (xs.drop k).zipIdx.map fun p => (g (k + p.2), p.1)

theorem trim_text {c : CronV} (h : c.allB 7 = true) : trimL c.text = c.text := by
  have hw := parts_words h
  rw [text_eq]
  obtain ⟨x0, xs, he⟩ := List.exists_cons_of_ne_nil (show c.parts c.last ≠ [] by rw [parts_cons]; simp)
  rw [he] at hw ⊢
  have key := trim_spread (g0 := []) (gn := []) (x0 := x0) (r := xs.map fun x => ([32], x)) (by intro c hc; simp at hc) (hw x0 (by simp)) (by intro c hc; simp at hc) (by
    intro p hp
    simp only [List.mem_map] at hp
    obtain ⟨x, hx, rfl⟩ := hp
    exact ⟨by intro c hc; simp at hc; subst hc; decide, by simp, hw x (by simp [hx])⟩)
  have e1 : ∀ l : List (List UInt8), spread (l.map fun x => ([32], x)) = tails l := by
    intro l
    induction l with
    | nil => rfl
    | cons y r ih => simp only [List.map_cons, spread, ih]; simp [tails]
  have e2 : (xs.map fun x => (([32] : List UInt8), x)).map (·.2) = xs := by
    rw [List.map_map]
    exact List.map_id' xs
  rw [e1, e2] at key
  rw [joinL_tails] at key ⊢
  simpa using key

theorem text_isText {c : CronV} (h : c.allB 7 = true) (hl : c.text.length ≤ 120) : isTextB c.text = true := by
  unfold isTextB asciiB
  rw [Bool.and_eq_true, List.all_eq_true]
  refine ⟨fun d hd => ?_, by simpa using hl⟩
  rcases text_chars h d hd with e | e
  · rw [e]; decide
  · simpa using (okC_ascii e).1

/-- what is known of a right expression -/
structure RightIs (c : CronV) : Prop where
  all : c.allB 7 = true
  told : toldK (c.p 3).k = false ∨ toldK (c.p 5).k = false
  len : c.text.length ≤ 120
theorem right_is {c : CronV} (h : c.rightB = true) : RightIs c := by
  unfold CronV.rightB at h
  simp only [Bool.and_eq_true, Bool.not_eq_true', decide_eq_true_eq, Bool.and_eq_false_iff] at h
  exact ⟨h.1, h.2.1, h.2.2⟩

/-- THE PLAIN LAW: the fields of a right expression's text -/
theorem fields_right {c : CronV} (h : RightIs c) : ∃ fs, implO c.text = some fs ∧ exprO c.text = some fs ∧ isTextB c.text = true ∧ fs.length = 7 ∧ fs[3]?.map (·.2) = some (c.p 3).dayN ∧ fs[5]?.map (·.2) = some (c.p 5).weekN ∧
      ∀ i, i < 7 → (c.p i).k < 8 → fs[i]?.map (·.1) = some (c.numsAt i) := by
  obtain ⟨fs, h1, h2⟩ := build_right h.all h.told
  have ht := text_isText h.all h.len
  have he : exprO c.text = some fs := by
    unfold exprO
    rw [trim_text h.all, parse_text h.all, h1]
  refine ⟨fs, ?_, he, ht, h2⟩
  unfold implO
  rw [ht, if_pos rfl, he]
end Go.Proofs.YtmaffdhcmdhjfaaGreatDoor
namespace Go.Proofs.YtmaffdhcmdhjfaaGreatDoor
open Go.RowKit Go.Lib

def CronV.list (c : CronV) : List Value := c.cells.toList
theorem list_eq (c : CronV) : c.list.toArray = c.cells := by unfold CronV.list; simp
theorem CronAt.range {W : World} {B : Nat} {c : CronV} (h : CronAt W B c) : W.rangeAt B 0 c.list := by
  intro j v hv
  rw [Nat.zero_add]
  simp only [World.cell?, h.blk]
  simpa [CronV.list] using hv

theorem intRows_len {w : World} {base : Nat} {v : Value} {ls : List (List Int)} (h : IntRows w base v ls) : ∃ a cap, v = .slice a ls.length cap := by
  obtain ⟨xs, h1, _⟩ := h
  exact own_any h1

theorem numsAt_len {c : CronV} (h : c.allB 7 = true) (i : Nat) (hi : i < 7) : (c.numsAt i).length ≤ 100000000 := by
  have key : ∀ j, j < 7 → ((c.p j).nums j).length ≤ 30000 := fun j hj => nums_len (all_right h j hj)
  unfold CronV.numsAt
  split
  · have := key 5 (by omega); simp; omega
  · split
    · simp
    · have := key i hi; omega

/-- a load of a whole expression, as one word -/
def loadCron (v : Value) : Sem Next := do pure (.value (← Instr.loadAt 27 v))
theorem execOp_loadCron (ρ : Operand → Value) (dst : Option Tmp) (x : Operand) (ty : TypeId) (pos : String) (after : Array Edge) (guard : Option (Nat × Bool)) :
    execOp ρ { dst, op := .load 27 x, type := ty, pos, after, guard } = loadCron (ρ x) := rfl
attribute [local go_sem ↓] execOp_loadCron
theorem CronAt.whole {W : World} {B : Nat} {c : CronV} (h : CronAt W B c) : (loadCron (.pointer (some ⟨B, 0, none⟩))).run Tryz.prog W = .ok (.value (.agg c.cells)) W := by
  unfold loadCron
  simp only [Instr.loadAt, Instr.sureAddr, Sem.run_bind, Sem.run_pure, Result.andThen_ok, h.load]

set_option maxHeartbeats 6400000 in
set_option maxRecDepth 1000000 in
theorem law_fields (c : CronV) (hO : CronIn c) (w : World) (hI : CronItems w c) (hE : Env w) :
    Calls Tryz.prog 3 #[.agg c.cells] w fun e w' => e = .returned (.bool true) ∧ Ext w w' := by
  have HC : Hid (CronAt (w.alloc (.cells c.cells 27)) w.heap.size c) := cron_alloc w c
  have HX : Hid (Ext w (w.alloc (.cells c.cells 27))) := Ext.alloc _ _
  have HI := Lib.hid hI
  have HO := Lib.hid hO
  clear hI hO
  have Hb0 := Lib.hid HC.out.blk
  go_enter Tryz.func3, Tryz.ntmps3
  go_wp2_with (refine wpList_load_cron rfl _ rfl w.heap.size rfl c Hb0.out ?_)
  go_at_call 12
  refine (fits_any c _).mono ?_
  rintro e w1 ⟨rfl, x1⟩
  have C1 := Lib.hid (HC.out.ext x1)
  have X1 := Lib.hid (HX.out.trans x1)
  have Hb1 := Lib.hid C1.out.blk
  clear x1 Hb0
  go_wp2_with (refine wpList_load_cron rfl _ rfl w.heap.size rfl c Hb1.out ?_)
  go_at_call 13
  refine (right_cron c HO.out _ (HI.out.ext X1.out) (hE.ext X1.out)).mono ?_
  rintro e w2 ⟨rfl, x2⟩
  have C2 := Lib.hid (C1.out.ext x2)
  have X2 := Lib.hid (X1.out.trans x2)
  have Hb2 := Lib.hid C2.out.blk
  clear x2 Hb1
  rcases hR : c.rightB
  · clear hR
    go_wp2_with fail
    go_ret
    exact ⟨rfl, X2.out⟩
  · have HR := Lib.hid (right_is hR)
    clear hR
    have HOK := Lib.hid (cron_ok HO.out HR.out.all)
    go_wp2_with (refine wpList_load_cron rfl _ rfl w.heap.size rfl c Hb2.out ?_)
    go_at_call 14
    refine (text_cron c HOK.out _ (HI.out.ext X2.out) (hE.ext X2.out)).mono ?_
    rintro e w3 ⟨rfl, x3⟩
    have C3 := Lib.hid (C2.out.ext x3)
    have X3 := Lib.hid (X2.out.trans x3)
    clear x3 Hb2
    obtain ⟨tx, htx⟩ : ∃ tx, tx = mk c.text := ⟨_, rfl⟩
    have htl : tx.size ≤ 120 := by rw [htx, size_mk]; exact HR.out.len
    have HTX := Lib.hid htx
    rw [← htx]
    clear htx
    have hbt : bytes tx = c.text := by rw [HTX.out, bytes_mk]
    obtain ⟨fs, hf1, hf2, hf3, hf4, hf5, hf6, hf7⟩ := fields_right HR.out
    have HF : Hid (∀ W, Env W → Calls Tryz.prog 15 #[.string tx] W fun e W' => (∃ v, e = .returned (.tuple #[v, .int .i64 (c.p 3).dayN, .int .i64 (c.p 5).weekN, .bool true]) ∧ IntRows W' W.heap.size v (fs.map (·.1))) ∧ Ext W W') := fun W hW => by
      refine (impl_fields tx W (by omega) hW).mono ?_
      rw [hbt, hf1]
      rintro e W' ⟨⟨fs', v, a, b, he, rfl, h3, h5, hR⟩ | ⟨he, _⟩, x⟩
      · injection he with he
        subst he
        rw [hf5] at h3
        rw [hf6] at h5
        injection h3 with h3
        injection h5 with h5
        subst h3 h5
        exact ⟨⟨v, rfl, hR⟩, x⟩
      · cases he
    have HV : Hid (∀ W, Env W → Calls Tryz.prog 17 #[.string tx] W fun e W' => e = .returned (.bool true) ∧ Ext W W') := fun W hW => by
      refine (impl_valid tx W (by omega) hW).mono ?_
      rw [hbt, hf2, hf3]
      rintro e W' ⟨rfl, x⟩
      exact ⟨rfl, x⟩
    have HSAME : Hid (∀ i, i < 7 → (c.p i).k < 8 → (fs.map (·.1))[i]? = (c.nums 7)[i]?) := by
      intro i hi hk
      have h1 := hf7 i hi hk
      rw [List.getElem?_map, h1]
      unfold CronV.nums
      rw [List.getElem?_map, List.getElem?_range hi]
      rfl
    have H7 : Hid ((fs.map (·.1)).length = 7) := by show _ = _; simpa using hf4
    have hds := special_cron c (fun h9 => by
      have := right_case (all_right HR.out.all 3 (by decide))
      cases this with
      | common h _ _ => omega
      | last h _ => omega
      | lastWork h _ => omega
      | before _ _ a b => exact ⟨a, b⟩
      | closest h _ => omega
      | lastOf h _ => omega
      | nth h _ => omega)
    have HDS := Lib.hid hds
    obtain ⟨dn, hdn⟩ : ∃ dn, dn = (c.p 3).dayN := ⟨_, rfl⟩
    obtain ⟨wn, hwn⟩ : ∃ wn, wn = (c.p 5).weekN := ⟨_, rfl⟩
    rw [← hdn, ← hwn] at HF HDS
    clear hbt hf1 hf2 hf3 hf4 hf5 hf6 hf7 hds hdn hwn
    go_wp2_with fail
    go_at_call 15
    refine (HF.out _ (hE.ext X3.out)).mono ?_
    rintro e w4 ⟨⟨v4, rfl, hR4⟩, x4⟩
    have C4 := Lib.hid (C3.out.ext x4)
    have X4 := Lib.hid (X3.out.trans x4)
    have Hb4 := Lib.hid C4.out.blk
    obtain ⟨a4, c4, h4⟩ := intRows_len hR4
    rw [H7.out] at h4
    subst h4
    have HR4 := Lib.hid hR4
    clear x4 hR4
    go_wp2_with (refine wpList_load_cron rfl _ rfl w.heap.size rfl c Hb4.out ?_)
    go_at_call 16
    refine (HDS.out _).mono ?_
    rintro e w5 ⟨rfl, x5⟩
    have C5 := Lib.hid (C4.out.ext x5)
    have X5 := Lib.hid (X4.out.trans x5)
    have HR5 := Lib.hid (HR4.out.ext x5)
    clear x5 Hb4
    go_wp2_with fail
    have hS0 : ((loadCron (.pointer (some ⟨w.heap.size, 0, none⟩))).run Tryz.prog w5.drew = .ok (.value (.agg c.cells)) w5.drew ∧ Ext w5 w5.drew) := ⟨(C5.out.ext (Ext.drew _)).whole, Ext.drew _⟩
    have HVs : Hid (∀ W, ((loadCron (.pointer (some ⟨w.heap.size, 0, none⟩))).run Tryz.prog W = .ok (.value (.agg c.cells)) W ∧ Ext w5 W) → Calls Tryz.prog 17 #[.string tx] W fun e W' => e = .returned (.bool true) ∧ ((loadCron (.pointer (some ⟨w.heap.size, 0, none⟩))).run Tryz.prog W' = .ok (.value (.agg c.cells)) W' ∧ Ext w5 W')) := by
      intro W h
      refine (HV.out W (hE.ext (X5.out.trans h.2))).mono ?_
      rintro e W' ⟨rfl, x⟩
      exact ⟨rfl, (C5.out.ext (h.2.trans x)).whole, h.2.trans x⟩
    have HNs : Hid (∀ W, ((loadCron (.pointer (some ⟨w.heap.size, 0, none⟩))).run Tryz.prog W = .ok (.value (.agg c.cells)) W ∧ Ext w5 W) → Calls Tryz.prog 19 #[.agg c.cells] W fun e W' => ∃ v, e = .returned v ∧ IntRows W' 0 v (c.nums 7) ∧ ((loadCron (.pointer (some ⟨w.heap.size, 0, none⟩))).run Tryz.prog W' = .ok (.value (.agg c.cells)) W' ∧ Ext w5 W')) := by
      intro W h
      refine (numbers_cron c ⟨fun j hj => all_right HR.out.all j hj⟩ W (HI.out.ext (X5.out.trans h.2))).mono ?_
      rintro e W' ⟨v, rfl, hr, x⟩
      exact ⟨v, rfl, hr.mono (Nat.zero_le _), (C5.out.ext (h.2.trans x)).whole, h.2.trans x⟩
    have HSs : Hid (∀ W v, IntRows W 0 v (c.nums 7) → ((loadCron (.pointer (some ⟨w.heap.size, 0, none⟩))).run Tryz.prog W = .ok (.value (.agg c.cells)) W ∧ Ext w5 W) → Calls Tryz.prog 18 #[.agg c.cells, .slice a4 7 c4, v] W fun e W' => e = .returned (.bool true) ∧ ((loadCron (.pointer (some ⟨w.heap.size, 0, none⟩))).run Tryz.prog W' = .ok (.value (.agg c.cells)) W' ∧ Ext w5 W')) := by
      intro W v hv h
      refine (same_true c _ v _ _ (fs.map (·.1)) (c.nums 7) H7.out (by simp [CronV.nums]) HSAME.out ?_ W (HR5.out.ext h.2) hv).mono ?_
      · intro l hl
        simp only [CronV.nums, List.mem_map, List.mem_range] at hl
        obtain ⟨i, hi, rfl⟩ := hl
        exact numsAt_len HR.out.all i hi
      · rintro e W' ⟨rfl, x⟩
        exact ⟨rfl, (C5.out.ext (h.2.trans x)).whole, h.2.trans x⟩
    go_region_held3 (fun W => ((loadCron (.pointer (some ⟨w.heap.size, 0, none⟩))).run Tryz.prog W = .ok (.value (.agg c.cells)) W ∧ Ext w5 W)) (first | assumption)
      (first
      | (go_at_call 17
         refine (HVs.out _ (by assumption)).mono ?_
         rintro e w6 ⟨rfl, hS1⟩)
      | (go_at_call 19
         refine (HNs.out _ (by assumption)).mono ?_
         rintro e w6 ⟨v6, rfl, hR6, hS1⟩)
      | (go_at_call 18
         refine (HSs.out _ _ (by assumption) (by assumption)).mono ?_
         rintro e w6 ⟨rfl, hS1⟩))
    have HSE := Lib.hid hS1.2
    clear hS1
    go_wp2_with fail
    go_ret
    exact ⟨rfl, X5.out.trans HSE.out⟩
end Go.Proofs.YtmaffdhcmdhjfaaGreatDoor
namespace Go.Proofs.YtmaffdhcmdhjfaaGreatDoor
open Go.RowKit Go.Lib

def gapTab : List (List UInt8) := [[], [32], [32, 32], [9], [32, 10], [13, 10, 32], [12]]
/-- the white space of a number -/
def gapL (gs : List Int) (k : Nat) : List UInt8 := match gs[k]? with
  | none => []
  | some g => gapTab.getD (g % 7).toNat []
theorem gapL_len (gs : List Int) (k : Nat) : (gapL gs k).length ≤ 3 := by
  unfold gapL
  split
  · simp
  · rename_i g _
    have : (g % 7).toNat = 0 ∨ (g % 7).toNat = 1 ∨ (g % 7).toNat = 2 ∨ (g % 7).toNat = 3 ∨ (g % 7).toNat = 4 ∨ (g % 7).toNat = 5 ∨ (g % 7).toNat = 6 := by omega
    rcases this with h | h | h | h | h | h | h <;> rw [h] <;> decide
theorem gapL_ws (gs : List Int) (k : Nat) : GapC (gapL gs k) := by
  unfold gapL
  split
  · intro c hc; simp at hc
  · rename_i g _
    have : (g % 7).toNat = 0 ∨ (g % 7).toNat = 1 ∨ (g % 7).toNat = 2 ∨ (g % 7).toNat = 3 ∨ (g % 7).toNat = 4 ∨ (g % 7).toNat = 5 ∨ (g % 7).toNat = 6 := by omega
    rcases this with h | h | h | h | h | h | h <;> rw [h] <;> unfold GapC <;> decide

/-- numbers that came in lie in a slice -/
def NumsAt (W : World) (a : Option Addr) (gs : List Int) : Prop :=
  gs ≠ [] → ∃ b o, a = some ⟨b, o, none⟩ ∧ ∀ (j : Nat) (z : Int), gs[j]? = some z → W.cell? ⟨b, o + j, none⟩ = some (.int .i64 z)
theorem NumsAt.ext {W W' : World} {a : Option Addr} {gs : List Int} (h : NumsAt W a gs) (x : Ext W W') : NumsAt W' a gs := by
  intro hne
  obtain ⟨b, o, ha, hc⟩ := h hne
  exact ⟨b, o, ha, fun j z hj => x.cell (hc j z hj)⟩
structure GapsIn (gs : List Int) : Prop where
  len : gs.length ≤ 20
  num : ∀ z ∈ gs, 0 ≤ z ∧ z ≤ 9223372036854775807

set_option maxHeartbeats 1600000 in
set_option maxRecDepth 1000000 in
theorem gap_any (ga : Option Addr) (cap : Nat) (gs : List Int) (hG : GapsIn gs) (k : Nat) (hk : k ≤ 100000) (w : World) (hN : NumsAt w ga gs) :
    Calls Tryz.prog 43 #[.slice ga gs.length cap, .int .i64 k] w fun e w' => e = .returned (.string (mk (gapL gs k))) ∧ Ext w w' := by
  obtain ⟨n, hn⟩ : ∃ n, n = gs.length := ⟨_, rfl⟩
  have hnb : n ≤ 20 := by rw [hn]; exact hG.len
  have HN := Lib.hid hn
  have HNN := Lib.hid hN
  rw [← hn]
  clear hn hN
  by_cases hkn : n ≤ k
  · have HR : Hid (gapL gs k = []) := by
      show _ = _
      unfold gapL
      rw [List.getElem?_eq_none (by rw [← HN.out]; exact hkn)]
    go_enter Tryz.func43, Tryz.ntmps43
    go_wp2_with fail
    go_ret
    exact ⟨by rw [HR.out]; rfl, Ext.refl _⟩
  · obtain ⟨z, hz⟩ : ∃ z, gs[k]? = some z := ⟨_, List.getElem?_eq_getElem (by have := HN.out; omega)⟩
    obtain ⟨b, o, rfl, hc⟩ := HNN.out (by intro e; rw [e] at hz; simp at hz)
    have hck := hc k z hz
    have hzb := hG.num z (List.mem_of_getElem? hz)
    have HR : Hid (gapL gs k = gapTab.getD (z % 7).toNat []) := by
      show _ = _
      unfold gapL
      rw [hz]
    have hz0 : 0 ≤ z := hzb.1
    have hX := Ext.alloc w (.cells #[.string ⟨#[]⟩, .string ⟨#[32]⟩, .string ⟨#[32, 32]⟩, .string ⟨#[9]⟩, .string ⟨#[32, 10]⟩, .string ⟨#[13, 10, 32]⟩, .string ⟨#[12]⟩] 9)
    have hck2 := hX.cell hck
    have HX := Lib.hid hX
    have h7 : z % 7 = 0 ∨ z % 7 = 1 ∨ z % 7 = 2 ∨ z % 7 = 3 ∨ z % 7 = 4 ∨ z % 7 = 5 ∨ z % 7 = 6 := by omega
    clear hc hz hX hzb
    rcases h7 with h7 | h7 | h7 | h7 | h7 | h7 | h7
    all_goals
      rw [h7] at HR
      go_enter Tryz.func43, Tryz.ntmps43
      go_wp2_with fail
      go_ret
      exact ⟨by rw [HR.out]; rfl, HX.out⟩

/-- what a blank of the text becomes -/
def gapN (gs : List Int) (k : Nat) : List UInt8 := if gapL gs k = [] then [32] else gapL gs k
theorem gapN_len (gs : List Int) (k : Nat) : (gapN gs k).length ≤ 3 := by
  unfold gapN
  split
  · simp
  · exact gapL_len gs k
def spaceStep (gs : List Int) (st : List UInt8 × Nat) (c : UInt8) : List UInt8 × Nat := if c = 32 then (st.1 ++ gapN gs st.2, st.2 + 1) else (st.1 ++ [c], st.2)
def spaceGo (gs : List Int) (t : List UInt8) : List UInt8 × Nat := t.foldl (spaceStep gs) (gapL gs 0, 1)
/-- an expression's text with white space of its own -/
def spacedL (gs : List Int) (t : List UInt8) : List UInt8 := (spaceGo gs t).1 ++ gapL gs (spaceGo gs t).2
theorem spaceGo_snoc (gs : List Int) (t : List UInt8) (c : UInt8) : spaceGo gs (t ++ [c]) = spaceStep gs (spaceGo gs t) c := by unfold spaceGo; rw [List.foldl_append]; rfl
theorem spaceGo_bd (gs : List Int) (t : List UInt8) : (spaceGo gs t).1.length ≤ 3 + 3 * t.length ∧ (spaceGo gs t).2 ≤ t.length + 1 := by
  have key : ∀ (t : List UInt8) (st : List UInt8 × Nat), (t.foldl (spaceStep gs) st).1.length ≤ st.1.length + 3 * t.length ∧ (t.foldl (spaceStep gs) st).2 ≤ st.2 + t.length := by
    intro t
    induction t with
    | nil => intro st; simp
    | cons c r ih =>
      intro st
      have h := ih (spaceStep gs st c)
      have hs : (spaceStep gs st c).1.length ≤ st.1.length + 3 ∧ (spaceStep gs st c).2 ≤ st.2 + 1 := by
        unfold spaceStep
        split
        · have := gapN_len gs st.2; simp; omega
        · simp
      rw [List.foldl_cons, List.length_cons]
      omega
  have := key t (gapL gs 0, 1)
  have h3 := gapL_len gs 0
  unfold spaceGo
  simp only at this
  omega
end Go.Proofs.YtmaffdhcmdhjfaaGreatDoor
namespace Go.Proofs.YtmaffdhcmdhjfaaGreatDoor
open Go.RowKit Go.Lib
attribute [local go_sem ↓] execOp_loadCron

set_option maxHeartbeats 3200000 in
set_option maxRecDepth 1000000 in
theorem spaced_cron (c : CronV) (hO : CronOk c) (ga : Option Addr) (cap : Nat) (gs : List Int) (hG : GapsIn gs) (w : World) (hI : CronItems w c) (hN : NumsAt w ga gs) (hE : Env w) (hl : c.text.length ≤ 120) :
    Calls Tryz.prog 20 #[.agg c.cells, .slice ga gs.length cap] w fun e w' => e = .returned (.string (mk (spacedL gs c.text))) ∧ Ext w w' := by
  have HC : Hid (CronAt (w.alloc (.cells c.cells 27)) w.heap.size c) := cron_alloc w c
  have HX : Hid (Ext w (w.alloc (.cells c.cells 27))) := Ext.alloc _ _
  have hld := HC.out.whole
  have HT : Hid (∀ W, Ext w W → Calls Tryz.prog 14 #[.agg c.cells] W fun e w' => e = .returned (.string (mk c.text)) ∧ Ext W w') := fun W hW => text_cron c hO W (hI.ext hW) (hE.ext hW)
  obtain ⟨n, hn⟩ : ∃ n, n = gs.length := ⟨_, rfl⟩
  have hnb : n ≤ 20 := by rw [hn]; exact hG.len
  have HGP : Hid (∀ W (k : Nat), k ≤ 100000 → Ext w W → Calls Tryz.prog 43 #[.slice ga n cap, .int .i64 k] W fun e w' => e = .returned (.string (mk (gapL gs k))) ∧ Ext W w') := fun W k hk hW => by
    rw [hn]; exact gap_any ga cap gs hG k hk W (hN.ext hW)
  rw [← hn]
  obtain ⟨t, ht⟩ : ∃ t, t = mk c.text := ⟨_, rfl⟩
  have htl : t.size ≤ 120 := by rw [ht, size_mk]; exact hl
  have HTB : Hid (bytes t = c.text) := by show _ = _; rw [ht, bytes_mk]
  rw [← ht] at HT
  clear ht hn hI hN hO hG hl
  go_enter Tryz.func20, Tryz.ntmps20
  go_wp2_with fail
  go_at_call 14
  refine (HT.out _ HX.out).mono ?_
  rintro e w1 ⟨rfl, x1⟩
  have X1 := Lib.hid (HX.out.trans x1)
  clear x1 hld
  go_wp2_with fail
  go_at_call 43
  refine (HGP.out _ 0 (by omega) X1.out).mono ?_
  rintro e w2 ⟨rfl, x2⟩
  have X2 := Lib.hid (X1.out.trans x2)
  clear x2
  obtain ⟨g0, hg0⟩ : ∃ g0, g0 = mk (gapL gs 0) := ⟨_, rfl⟩
  have hg0l : g0.size ≤ 3 := by rw [hg0, size_mk]; exact gapL_len gs 0
  have HG0 := Lib.hid hg0
  rw [← hg0]
  clear hg0
  go_wp2_with fail
  go_loopw [6, 7, 8, 9] (fun o kk i _ wr => ∃ (j k : Nat) (O : ByteArray), j ≤ t.size ∧ i = .int .i64 j ∧ kk = .int .i64 k ∧ o = .string O ∧ k ≤ j + 1 ∧ O.size ≤ 3 + 3 * j ∧ Hid ((bytes O, k) = spaceGo gs ((bytes t).take j)) ∧ Hid (Ext w wr))
    (fun _ _ i _ _ => t.size - (RowKit.intOf i).toNat)
  case atStart => exact ⟨0, 1, g0, Nat.zero_le _, rfl, rfl, rfl, by omega, by omega, by show _ = _; rw [HG0.out, bytes_mk]; rfl, X2.out⟩
  case round =>
    obtain ⟨j, k, O, hj, rfl, rfl, rfl, hk, hO, HS, Hx⟩ := hrel
    by_cases hlt : j < t.size
    · have HTS : Hid ((bytes t).take (j + 1) = (bytes t).take j ++ [t[j]]) := take_snoc t j hlt
      by_cases hsp : t[j] = 32
      · have h1 : ((t[j].toNat : Int) == 32) = true := by rw [hsp]; rfl
        have h2 : ((t[j].toNat : Int) != 32) = false := by rw [hsp]; rfl
        have HSP := Lib.hid hsp
        clear hsp
        go_wp2_with fail
        go_at_call 43
        refine (HGP.out _ k (by omega) Hx.out).mono ?_
        rintro e w3 ⟨rfl, x3⟩
        have X3 := Lib.hid (Hx.out.trans x3)
        clear x3
        have hgl := gapL_len gs k
        by_cases he : gapL gs k = []
        · have HGN : Hid (gapN gs k = [32]) := by show _ = _; unfold gapN; rw [if_pos he]
          obtain ⟨G, hGe⟩ : ∃ G, G = mk (gapL gs k) := ⟨_, rfl⟩
          have hGs : G.size ≤ 3 := by rw [hGe, size_mk]; exact hgl
          have hne : G.toList.isEmpty = true := by rw [toList_bytes, hGe, bytes_mk, he]; rfl
          rw [← hGe]
          clear he hgl hGe
          go_wp2_with fail
          go_roundw
          case rel => exact ⟨j + 1, k + 1, _, by omega, by go_num, by go_num, rfl, by omega, by rw [ByteArray.size_append]; show O.size + 1 ≤ _; omega, by
            show _ = _
            rw [HTS.out, spaceGo_snoc, ← HS.out, HSP.out]
            unfold spaceStep
            rw [if_pos rfl, HGN.out]
            congr 1 <;> simp [bytes], X3⟩
          case measure => simp [RowKit.intOf]; omega
        · obtain ⟨G, hGe⟩ : ∃ G, G = mk (gapL gs k) := ⟨_, rfl⟩
          have hGs : G.size ≤ 3 := by rw [hGe, size_mk]; exact hgl
          have hne : G.toList.isEmpty = false := by rw [toList_bytes, hGe, bytes_mk]; cases hq : gapL gs k with
            | nil => exact absurd hq he
            | cons _ _ => rfl
          have HGB : Hid (bytes G = gapN gs k) := by show _ = _; rw [hGe, bytes_mk]; unfold gapN; rw [if_neg he]
          rw [← hGe]
          clear he hgl hGe
          go_wp2_with fail
          go_roundw
          case rel => exact ⟨j + 1, k + 1, _, by omega, by go_num, by go_num, rfl, by omega, by rw [ByteArray.size_append]; omega, by
            show _ = _
            rw [HTS.out, spaceGo_snoc, ← HS.out, HSP.out]
            unfold spaceStep
            rw [if_pos rfl, ← HGB.out]
            congr 1 <;> simp [bytes], X3⟩
          case measure => simp [RowKit.intOf]; omega
      · have h1 : ((t[j].toNat : Int) == 32) = false := by
          rw [beq_eq_false_iff_ne]; intro h; exact hsp (UInt8.toNat.inj (by have : (32 : UInt8).toNat = 32 := rfl; omega))
        have h2 : ((t[j].toNat : Int) != 32) = true := by rw [bne, h1]; rfl
        have HSP := Lib.hid hsp
        have HEX : Hid (bytes (t.extract j (j + 1)) = [t[j]]) := by
          show _ = _
          rw [bytes_extract, take_snoc t j hlt, List.drop_append_of_le_length (by simp [bytes]; omega)]
          rw [List.drop_of_length_le (by simp [bytes]; omega)]
          rfl
        clear hsp
        go_wp2_with fail
        go_roundw
        case rel => exact ⟨j + 1, k, _, by omega, by go_num, rfl, rfl, by omega, by rw [ByteArray.size_append, ByteArray.size_extract]; omega, by
          show _ = _
          rw [HTS.out, spaceGo_snoc, ← HS.out]
          unfold spaceStep
          rw [if_neg HSP.out, ← HEX.out]
          congr 1 <;> simp [bytes], Hx⟩
        case measure => simp [RowKit.intOf]; omega
    · have HJ : Hid ((bytes O, k) = spaceGo gs c.text) := by
        show _ = _
        rw [HS.out, take_all t j (by omega), HTB.out]
      go_wp2_with fail
      go_at_call 43
      refine (HGP.out _ k (by omega) Hx.out).mono ?_
      rintro e w3 ⟨rfl, x3⟩
      have X3 := Lib.hid (Hx.out.trans x3)
      clear x3
      obtain ⟨G, hGe⟩ : ∃ G, G = mk (gapL gs k) := ⟨_, rfl⟩
      have hGs : G.size ≤ 3 := by rw [hGe, size_mk]; exact gapL_len gs k
      have HGE := Lib.hid hGe
      rw [← hGe]
      clear hGe
      go_wp2_with fail
      go_ret
      refine ⟨ret_str ?_, X3.out⟩
      refine mk_eq _ _ ?_
      unfold spacedL
      rw [← HJ.out, HGE.out]
      simp [bytes, mk]
end Go.Proofs.YtmaffdhcmdhjfaaGreatDoor
namespace Go.Proofs.YtmaffdhcmdhjfaaGreatDoor
open Go.RowKit Go.Lib

def gapsFor (gs : List Int) : Nat → List (List UInt8) → List (List UInt8 × List UInt8)
  | _, [] => []
  | k, x :: r => (gapN gs k, x) :: gapsFor gs (k + 1) r
theorem gapsFor_snd (gs : List Int) : ∀ (xs : List (List UInt8)) (k : Nat), (gapsFor gs k xs).map (·.2) = xs
  | [], _ => rfl
  | x :: r, k => by simp [gapsFor, gapsFor_snd gs r (k + 1)]
theorem gapN_ok (gs : List Int) (k : Nat) : GapC (gapN gs k) ∧ gapN gs k ≠ [] := by
  unfold gapN
  split
  · exact ⟨by intro c hc; simp at hc; subst hc; decide, by simp⟩
  · rename_i h; exact ⟨gapL_ws gs k, h⟩
theorem gapsFor_ok (gs : List Int) : ∀ (xs : List (List UInt8)) (k : Nat), (∀ x ∈ xs, WordC x) → ∀ p ∈ gapsFor gs k xs, GapC p.1 ∧ p.1 ≠ [] ∧ WordC p.2
  | [], _, _, p, hp => by simp [gapsFor] at hp
  | x :: r, k, h, p, hp => by
    simp only [gapsFor, List.mem_cons] at hp
    rcases hp with rfl | hp
    · exact ⟨(gapN_ok gs k).1, (gapN_ok gs k).2, h x (by simp)⟩
    · exact gapsFor_ok gs r (k + 1) (fun y hy => h y (by simp [hy])) p hp

theorem word_no32 {x : List UInt8} (h : WordC x) : ∀ c ∈ x, c ≠ 32 := by
  intro c hc e
  have := h.ws c hc
  rw [e] at this
  revert this; decide

theorem fold_noblank (gs : List Int) : ∀ (x o : List UInt8) (k : Nat), (∀ c ∈ x, c ≠ 32) → x.foldl (spaceStep gs) (o, k) = (o ++ x, k)
  | [], o, k, _ => by simp
  | c :: r, o, k, h => by
    have e : spaceStep gs (o, k) c = (o ++ [c], k) := by unfold spaceStep; rw [if_neg (h c (by simp))]
    rw [List.foldl_cons, e, fold_noblank gs r _ k (fun d hd => h d (by simp [hd]))]
    simp

theorem fold_tails (gs : List Int) : ∀ (xs : List (List UInt8)) (o : List UInt8) (k : Nat), (∀ x ∈ xs, WordC x) →
    (tails xs).foldl (spaceStep gs) (o, k) = (o ++ spread (gapsFor gs k xs), k + xs.length)
  | [], o, k, _ => by simp [tails, gapsFor, spread]
  | x :: r, o, k, h => by
    have e : tails (x :: r) = 32 :: (x ++ tails r) := by simp [tails]
    have e2 : spaceStep gs (o, k) 32 = (o ++ gapN gs k, k + 1) := by unfold spaceStep; rw [if_pos rfl]
    rw [e, List.foldl_cons, e2, List.foldl_append, fold_noblank gs x _ _ (word_no32 (h x (by simp))), fold_tails gs r _ _ (fun y hy => h y (by simp [hy]))]
    simp only [gapsFor, spread, List.length_cons, List.append_assoc]
    congr 1
    omega

theorem spaced_eq (gs : List Int) (x0 : List UInt8) (xs : List (List UInt8)) (h : ∀ x ∈ x0 :: xs, WordC x) :
    spacedL gs (joinL 32 (x0 :: xs)) = gapL gs 0 ++ (x0 ++ (spread (gapsFor gs 1 xs) ++ gapL gs (1 + xs.length))) := by
  have key : spaceGo gs (joinL 32 (x0 :: xs)) = (gapL gs 0 ++ x0 ++ spread (gapsFor gs 1 xs), 1 + xs.length) := by
    unfold spaceGo
    rw [joinL_tails, List.foldl_append, fold_noblank gs x0 _ _ (word_no32 (h x0 (by simp))), fold_tails gs xs _ _ (fun y hy => h y (by simp [hy]))]
  unfold spacedL
  rw [key]
  simp

theorem spread_chars : ∀ (r : List (List UInt8 × List UInt8)) (d : UInt8), d ∈ spread r → (∃ p ∈ r, d ∈ p.1) ∨ (∃ p ∈ r, d ∈ p.2)
  | [], d, h => by simp [spread] at h
  | (g, x) :: r, d, h => by
    simp only [spread, List.mem_append] at h
    rcases h with h | h | h
    · exact .inl ⟨(g, x), by simp, h⟩
    · exact .inr ⟨(g, x), by simp, h⟩
    · rcases spread_chars r d h with ⟨p, hp, hd⟩ | ⟨p, hp, hd⟩
      · exact .inl ⟨p, by simp [hp], hd⟩
      · exact .inr ⟨p, by simp [hp], hd⟩

theorem ws_ascii {c : UInt8} (h : isWs c = true) : c.toNat ≤ 127 := by
  unfold isWs at h
  simp only [Bool.or_eq_true, beq_iff_eq] at h
  rcases h with rfl | rfl | rfl | rfl | rfl <;> decide

/-- THE PLAIN LAW: white space of one's own reads as single blanks -/
theorem spaced_law {c : CronV} (h : c.allB 7 = true) (gs : List Int) : trimL (spacedL gs c.text) = c.text ∧ asciiB (spacedL gs c.text) = true := by
  have hw := parts_words h
  have hch := parts_chars h
  rw [text_eq]
  obtain ⟨x0, xs, he⟩ := List.exists_cons_of_ne_nil (show c.parts c.last ≠ [] by rw [parts_cons]; simp)
  rw [he] at hw hch ⊢
  have hgf := gapsFor_ok gs xs 1 (fun x hx => hw x (by simp [hx]))
  refine ⟨?_, ?_⟩
  · rw [spaced_eq gs x0 xs hw, trim_spread (gapL_ws gs 0) (hw x0 (by simp)) (gapL_ws gs _) hgf, gapsFor_snd]
  · rw [spaced_eq gs x0 xs hw]
    unfold asciiB
    rw [List.all_eq_true]
    intro d hd
    simp only [List.mem_append] at hd
    rw [decide_eq_true_eq]
    rcases hd with hd | hd | hd | hd
    · exact ws_ascii (gapL_ws gs 0 d hd)
    · exact (okC_ascii (hch x0 (by simp) d hd)).1
    · rcases spread_chars _ d hd with ⟨p, hp, hd⟩ | ⟨p, hp, hd⟩
      · exact ws_ascii ((hgf p hp).1 d hd)
      · have : p.2 ∈ (gapsFor gs 1 xs).map (·.2) := List.mem_map.mpr ⟨p, hp, rfl⟩
        rw [gapsFor_snd] at this
        exact (okC_ascii (hch p.2 (by simp [this]) d hd)).1
    · exact ws_ascii (gapL_ws gs _ d hd)

theorem spaced_fields {c : CronV} (h : RightIs c) (gs : List Int) (hl : (spacedL gs c.text).length ≤ 120) :
    ∃ fs, implO (spacedL gs c.text) = some fs ∧ exprO (spacedL gs c.text) = some fs ∧ isTextB (spacedL gs c.text) = true ∧ trimL (spacedL gs c.text) = c.text ∧ fs.length = 7 ∧ fs[3]?.map (·.2) = some (c.p 3).dayN ∧ fs[5]?.map (·.2) = some (c.p 5).weekN ∧
      ∀ i, i < 7 → (c.p i).k < 8 → fs[i]?.map (·.1) = some (c.numsAt i) := by
  obtain ⟨fs, h1, h2⟩ := build_right h.all h.told
  obtain ⟨ht, ha⟩ := spaced_law h.all gs
  have hi : isTextB (spacedL gs c.text) = true := by unfold isTextB; rw [ha]; simpa using hl
  have he : exprO (spacedL gs c.text) = some fs := by
    unfold exprO
    rw [ht, parse_text h.all, h1]
  refine ⟨fs, ?_, he, hi, ht, h2⟩
  unfold implO
  rw [hi, if_pos rfl, he]
end Go.Proofs.YtmaffdhcmdhjfaaGreatDoor
