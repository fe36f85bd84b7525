/- The plain law of an expression's text, fourth part: the fields of days, and the expression as a whole. The plain law of an expression's text, fifth part: white space; the expression as a whole. A load of a whole expression, as one word. -/
import Derived.Test.YtmaffdhcmdhjfaaGreatDoorNF
import Derived.Deep.RegionHeld3
set_option linter.unusedSimpArgs false
set_option linter.unusedVariables false
namespace Go.Proofs.YtmaffdhcmdhjfaaGreatDoor
open Go.RowKit Go.Lib
inductive RightCase (f : Nat) (p : PartV) : Prop where
 | common : p.k < 8 → 0 ≤ p.k → Common f p.k p.a p.b p.s p.items → RightCase f p
 | last : p.k = 8 → f = 3 → RightCase f p
 | lastWork : p.k = 11 → f = 3 → RightCase f p
 | before : p.k = 9 → f = 3 → 1 ≤ p.a → p.a ≤ 31 → RightCase f p
 | closest : p.k = 10 → f = 3 → 1 ≤ p.a → p.a ≤ 31 → RightCase f p
 | lastOf : p.k = 12 → f = 5 → 1 ≤ p.a → p.a ≤ 7 → RightCase f p
 | nth : p.k = 13 → f = 5 → 1 ≤ p.a → p.a ≤ 7 → 1 ≤ p.b → p.b ≤ 5 → RightCase f p
theorem right_case {f : Nat} {p : PartV} (h : p.rightB f = true) : RightCase f p := by
 have hli := right_items h
 unfold PartV.rightB YtmaffdhcmdhjfaaGreatDoor.rightB at h
 by_cases hn0 : p.n < 0
 ·rw [if_pos hn0] at h; cases h
 by_cases hn2 : 2 < p.n
 ·rw [if_neg hn0, if_pos hn2] at h; cases h
 rw [if_neg hn0, if_neg hn2] at h
 by_cases k0 : p.k = 0
 ·exact .common (by omega) (by omega) (.plain (by omega) (by unfold plainB; simp [k0]))
 by_cases k1 : p.k = 1
 ·exact .common (by omega) (by omega) (.plain (by omega) (by unfold plainB; simp [k1]))
 by_cases k7 : p.k = 7
 ·exact .common (by omega) (by omega) (.list k7 (hli k7).1)
 rw [if_neg k0, if_neg k1, if_neg k7] at h
 by_cases k8 : p.k = 8
 ·rw [if_pos k8] at h; exact .last k8 (by simpa using h)
 by_cases k11 : p.k = 11
 ·rw [if_neg k8, if_pos k11] at h; exact .lastWork k11 (by simpa using h)
 by_cases k9 : p.k = 9
 ·rw [if_neg k8, if_neg k11, if_pos k9] at h
  simp only [Bool.and_eq_true, decide_eq_true_eq] at h
  exact .before k9 h.1.1 h.1.2 h.2
 by_cases k10 : p.k = 10
 ·rw [if_neg k8, if_neg k11, if_neg k9, if_pos k10] at h
  simp only [Bool.and_eq_true, decide_eq_true_eq] at h
  exact .closest k10 h.1.1 h.1.2 h.2
 by_cases k12 : p.k = 12
 ·rw [if_neg k8, if_neg k11, if_neg k9, if_neg k10, if_pos k12] at h
  simp only [Bool.and_eq_true, decide_eq_true_eq] at h
  exact .lastOf k12 h.1.1 h.1.2 h.2
 by_cases k13 : p.k = 13
 ·rw [if_neg k8, if_neg k11, if_neg k9, if_neg k10, if_neg k12, if_pos k13] at h
  simp only [Bool.and_eq_true, decide_eq_true_eq] at h
  exact .nth k13 h.1.1.1.1 h.1.1.1.2 h.1.1.2 h.1.2 h.2
 rw [if_neg k8, if_neg k11, if_neg k9, if_neg k10, if_neg k12, if_neg k13] at h
 have hs : Simple f p.k p.a p.b p.s p.n := ⟨h, by omega⟩
 have hk := hs.kind
 exact .common (by omega) (by omega) (.plain k7 (by unfold plainB; rw [h]; simp))
theorem right_n {f : Nat} {p : PartV} (h : p.rightB f = true) : p.n = 0 ∨ p.n = 1 ∨ p.n = 2 := (right_plain h).1
theorem text_k (f : Nat) (p : PartV) (h7 : p.k ≠ 7) : p.text f = textA f p.k p.a p.b p.s p.n := by unfold PartV.text textP; rw [if_neg h7]
theorem digits_dec (u : Nat) : digitsB (decDigits u) = true := by
 unfold digitsB
 rw [Bool.and_eq_true, List.all_eq_true]
 refine ⟨dec_dig u, ?_⟩
 have := dec_ne u
 rw [decide_eq_true_eq]
 exact List.length_pos_iff.mpr this
theorem dom_part {p : PartV} (h : p.rightB 3 = true) : ∃ zs, domO [] 1 31 (p.text 3) = some (zs, p.dayN) ∧ (p.k < 8 → zs = p.nums 3) := by
 have hn := right_n h
 cases right_case h with
 | common k8 k0 hc =>
   have hf : (76 : UInt8) ∉ p.text 3 ∧ ((3 : Nat) ≠ 5 → (87 : UInt8) ∉ p.text 3) := common_free (f := 3) (by decide) hn hc
   have h76 : (p.text 3).contains 76 = false := by simpa using hf.1
   have h87 : (p.text 3).contains 87 = false := by simpa using hf.2 (by decide)
   have hr : fieldO [] 1 31 (p.text 3) = some (p.nums 3) := field_common (f := 3) hn hc
   refine ⟨p.nums 3, ?_, fun _ => rfl⟩
   unfold domO
   rw [h76, h87, hr]
   have : p.dayN = 0 := by unfold PartV.dayN; rw [if_neg (by omega), if_neg (by omega), if_neg (by omega), if_neg (by omega)]
   rw [this]
   rfl
 | last k8 _ =>
   refine ⟨[], ?_, fun h => by omega⟩
   rw [text_k 3 p (by omega)]
   have : p.dayN = 1 := by unfold PartV.dayN; rw [if_pos k8]
   rw [k8, this]
   rfl
 | lastWork k11 _ =>
   refine ⟨[0], ?_, fun h => by omega⟩
   rw [text_k 3 p (by omega)]
   have : p.dayN = 3 := by unfold PartV.dayN; rw [if_neg (by omega), if_neg (by omega), if_neg (by omega), if_pos k11]
   rw [k11, this]
   rfl
 | before k9 _ a1 a31 =>
   refine ⟨[], ?_, fun h => by omega⟩
   rw [text_k 3 p (by omega)]
   have hd : p.dayN = -p.a := by unfold PartV.dayN; rw [if_neg (by omega), if_pos k9]
   rw [k9, hd]
   have ht : textA 3 9 p.a p.b p.s p.n = 76 :: 45 :: decDigits p.a.toNat := by simp [textA, itoa_dec p.a (by omega)]
   rw [ht]
   have w := word_dec p.a.toNat
   have hl : ((76 :: 45 :: decDigits p.a.toNat).contains 76 && lastDayB (76 :: 45 :: decDigits p.a.toNat)) = true := by
    have hdg := digits_dec p.a.toNat
    have hpos := List.length_pos_iff.mpr (dec_ne p.a.toNat)
    unfold lastDayB
    simp [hdg]
    omega
   have hs : splitL (76 :: 45 :: decDigits p.a.toNat) 45 = [[76], decDigits p.a.toNat] := split_two (l := [76]) (by decide) (word_free w 45 (by decide))
   have hne : ¬ (76 :: 45 :: decDigits p.a.toNat = [76]) := by simp
   unfold domO
   rw [hl, if_pos rfl, if_neg hne, hs]
   simp only [atoi_dec p.a.toNat (by omega)]
   rw [within_true (by omega) (by omega), if_pos rfl]
   congr 2
   omega
 | closest k10 _ a1 a31 =>
   refine ⟨[p.a], ?_, fun h => by omega⟩
   rw [text_k 3 p (by omega)]
   have hd : p.dayN = 2 := by unfold PartV.dayN; rw [if_neg (by omega), if_neg (by omega), if_pos k10]
   rw [k10, hd]
   have ht : textA 3 10 p.a p.b p.s p.n = decDigits p.a.toNat ++ [87] := by simp [textA, itoa_dec p.a (by omega)]
   rw [ht]
   have w := word_dec p.a.toNat
   have hdg := dec_dig p.a.toNat
   have hf76 : (decDigits p.a.toNat ++ [87]).contains 76 = false := by
    have : (76 : UInt8) ∉ decDigits p.a.toNat := fun hm => absurd (hdg _ hm) (by decide)
    simpa using this
   have hf87 : (decDigits p.a.toNat ++ [87]).contains 87 = true := by simp
   have hne : ¬ (decDigits p.a.toNat ++ [87] = [76, 87]) := by
    intro e
    have : (76 : UInt8) ∈ decDigits p.a.toNat ++ [87] := by rw [e]; simp
    simp only [List.mem_append, List.mem_singleton] at this
    rcases this with hm | hm
    ·exact absurd (hdg _ hm) (by decide)
    ·revert hm; decide
   have hw : weekdayB (decDigits p.a.toNat ++ [87]) = true := by
    have hpos := List.length_pos_iff.mpr (dec_ne p.a.toNat)
    have := digits_dec p.a.toNat
    unfold weekdayB
    simp [this]
    omega
   unfold domO
   rw [hf76, hf87, Bool.false_and, if_neg (by decide), if_pos rfl, if_neg hne, hw, if_pos rfl, List.dropLast_concat]
   simp only [atoi_dec p.a.toNat (by omega)]
   rw [within_true (by omega) (by omega), if_pos rfl]
   congr 3
   omega
 | lastOf _ h5 => exact absurd h5 (by decide)
 | nth _ h5 => exact absurd h5 (by decide)
theorem dow_part {p : PartV} (h : p.rightB 5 = true) : ∃ zs, dowO dayN 1 7 (p.text 5) = some (zs, p.weekN) ∧ (p.k < 8 → zs = p.nums 5) := by
 have hn := right_n h
 cases right_case h with
 | common k8 k0 hc =>
   have hf : (76 : UInt8) ∉ p.text 5 ∧ ((5 : Nat) ≠ 5 → (87 : UInt8) ∉ p.text 5) := common_free (f := 5) (by decide) hn hc
   have h76 : (p.text 5).contains 76 = false := by simpa using hf.1
   have h35 : (p.text 5).contains 35 = false := by
    have : (35 : UInt8) ∉ p.text 5 := fun hm => ((common_ok hn hc).2 _ hm).2 rfl
    simpa using this
   have hr : fieldO dayN 1 7 (p.text 5) = some (p.nums 5) := field_common (f := 5) hn hc
   refine ⟨p.nums 5, ?_, fun _ => rfl⟩
   unfold dowO
   rw [h76, h35, hr]
   have : p.weekN = 0 := by unfold PartV.weekN; rw [if_neg (by omega), if_neg (by omega)]
   rw [this]
   rfl
 | last _ h3 => exact absurd h3 (by decide)
 | lastWork _ h3 => exact absurd h3 (by decide)
 | before _ h3 => exact absurd h3 (by decide)
 | closest _ h3 => exact absurd h3 (by decide)
 | lastOf k12 _ a1 a7 =>
   refine ⟨[p.a], ?_, fun h => by omega⟩
   rw [text_k 5 p (by omega)]
   have hd : p.weekN = -1 := by unfold PartV.weekN; rw [if_pos k12]
   rw [k12, hd]
   have ht : textA 5 12 p.a p.b p.s p.n = nameL 5 p.a p.n ++ [76] := by simp [textA]
   rw [ht]
   obtain ⟨r, w⟩ := name_reads 5 p.a p.n (by omega) (by omega) hn
   have hl : ((nameL 5 p.a p.n ++ [76]).contains 76 && lastWeekdayB (nameL 5 p.a p.n ++ [76])) = true := by
    unfold lastWeekdayB
    simp
    exact ⟨w.2, by decide⟩
   unfold dowO
   rw [hl, if_pos rfl, List.dropLast_concat, if_neg w.1]
   have r' : normalizeO dayN (nameL 5 p.a p.n) = some p.a := r
   rw [r']
   simp only
   rw [within_true (by omega) (by omega), if_pos rfl]
 | nth k13 _ a1 a7 b1 b5 =>
   refine ⟨[p.a], ?_, fun h => by omega⟩
   rw [text_k 5 p (by omega)]
   have hd : p.weekN = p.b := by unfold PartV.weekN; rw [if_neg (by omega), if_pos k13]
   rw [k13, hd]
   have ht : textA 5 13 p.a p.b p.s p.n = nameL 5 p.a p.n ++ 35 :: decDigits p.b.toNat := by simp [textA, itoa_dec p.b (by omega)]
   rw [ht]
   obtain ⟨r, w⟩ := name_reads 5 p.a p.n (by omega) (by omega) hn
   have hf := (name_free (f := 5) (by decide) (a := p.a) (n := p.n) (by omega) hn).1
   have hdg := dec_dig p.b.toNat
   have h76 : (nameL 5 p.a p.n ++ 35 :: decDigits p.b.toNat).contains 76 = false := by
    have : (76 : UInt8) ∉ decDigits p.b.toNat := fun hm => absurd (hdg _ hm) (by decide)
    simpa using ⟨hf, this⟩
   have hs : splitL (nameL 5 p.a p.n ++ 35 :: decDigits p.b.toNat) 35 = [nameL 5 p.a p.n, decDigits p.b.toNat] :=
    split_two (word_free w 35 (by decide)) (word_free (word_dec _) 35 (by decide))
   have hh : ((nameL 5 p.a p.n ++ 35 :: decDigits p.b.toNat).contains 35 && hashB (nameL 5 p.a p.n ++ 35 :: decDigits p.b.toNat)) = true := by
    have hpos := List.length_pos_iff.mpr w.1
    have hdd := digits_dec p.b.toNat
    unfold hashB
    rw [hs]
    simp [hdd, hpos]
    exact w.2
   unfold dowO
   rw [h76, hh, Bool.false_and, if_neg (by decide), if_pos rfl, hs]
   have r' : normalizeO dayN (nameL 5 p.a p.n) = some p.a := r
   simp only [r']
   rw [within_true (by omega) (by omega), if_pos rfl]
   simp only [atoi_dec p.b.toNat (by omega)]
   have e : ((p.b.toNat : Nat) : Int) = p.b := by omega
   rw [e, within_true (by omega) (by omega), if_pos rfl]
theorem field_part {f : Nat} {p : PartV} (h3 : f ≠ 3) (h5 : f ≠ 5) (h : p.rightB f = true) : fieldO (namesOf f) (leastF f) (hiP f) (p.text f) = some (p.nums f) := by
 have hn := right_n h
 cases right_case h with
 | common _ _ hc => exact field_common hn hc
 | last _ e => exact absurd e h3
 | lastWork _ e => exact absurd e h3
 | before _ e => exact absurd e h3
 | closest _ e => exact absurd e h3
 | lastOf _ e => exact absurd e h5
 | nth _ e => exact absurd e h5
theorem part_chars {f : Nat} {p : PartV} (h : p.rightB f = true) : p.text f ≠ [] ∧ ∀ c ∈ p.text f, okC c := by
 have hn := right_n h
 have okw : ∀ {c : UInt8}, isWord c = true → okC c := fun h => .inl h
 have dig : ∀ {u : Nat} {c : UInt8}, c ∈ decDigits u → okC c := fun h => .inl (dig_word (dec_dig _ _ h))
 cases right_case h with
 | common _ _ hc =>
   have := common_ok hn hc
   exact ⟨this.1, fun c hc => (this.2 c hc).1⟩
 | last k _ =>
   rw [text_k f p (by omega), k]
   exact ⟨by simp [textA], fun c hc => by simp [textA] at hc; subst hc; exact okw (by decide)⟩
 | lastWork k _ =>
   rw [text_k f p (by omega), k]
   refine ⟨by simp [textA], fun c hc => ?_⟩
   simp [textA] at hc
   rcases hc with rfl | rfl <;> exact okw (by decide)
 | before k _ a1 _ =>
   rw [text_k f p (by omega), k]
   refine ⟨by simp [textA], fun c hc => ?_⟩
   simp [textA, itoa_dec p.a (by omega)] at hc
   rcases hc with rfl | rfl | hc
   ·exact okw (by decide)
   ·unfold okC; simp
   ·exact dig hc
 | closest k _ a1 _ =>
   rw [text_k f p (by omega), k]
   refine ⟨by simp [textA], fun c hc => ?_⟩
   simp [textA, itoa_dec p.a (by omega)] at hc
   rcases hc with hc | rfl
   ·exact dig hc
   ·exact okw (by decide)
 | lastOf k _ a1 a7 =>
   rw [text_k f p (by omega), k]
   obtain ⟨_, w⟩ := name_reads f p.a p.n (by omega) (by omega) hn
   refine ⟨by simp [textA], fun c hc => ?_⟩
   simp [textA] at hc
   rcases hc with hc | rfl
   ·exact okw (w.2 c hc)
   ·exact okw (by decide)
 | nth k _ a1 a7 b1 b5 =>
   rw [text_k f p (by omega), k]
   obtain ⟨_, w⟩ := name_reads f p.a p.n (by omega) (by omega) hn
   refine ⟨by simp [textA], fun c hc => ?_⟩
   simp [textA, itoa_dec p.b (by omega)] at hc
   rcases hc with hc | rfl | hc
   ·exact okw (w.2 c hc)
   ·unfold okC; simp
   ·exact dig hc
end Go.Proofs.YtmaffdhcmdhjfaaGreatDoor
namespace Go.Proofs.YtmaffdhcmdhjfaaGreatDoor
open Go.RowKit Go.Lib
structure WordC (l : List UInt8) : Prop where
 ne : l ≠ []
 ws : ∀ c ∈ l, isWs c = false
 sp : ∀ c ∈ l, YtmaffdhcmdhjfaaGreatDoor.sp c = false
def GapC (l : List UInt8) : Prop := ∀ c ∈ l, isWs c = true
theorem fold_word : ∀ (x out : List UInt8), (∀ c ∈ x, isWs c = false) → x.foldl colStep out = out ++ x
 | [], out, _ => by simp
 | c :: r, out, h => by
   have e : colStep out c = out ++ [c] := by unfold colStep; rw [h c (by simp)]; simp
   rw [List.foldl_cons, e, fold_word r _ (fun d hd => h d (by simp [hd]))]
   simp
theorem col_ws {out : List UInt8} {c : UInt8} (h : isWs c = true) : colStep out c = if out.getLast? = some 32 then out else out ++ [32] := by unfold colStep; rw [h]; simp
theorem fold_gap_last : ∀ (x out : List UInt8), GapC x → out.getLast? = some 32 → x.foldl colStep out = out
 | [], out, _, _ => rfl
 | c :: r, out, h, hl => by
   rw [List.foldl_cons, col_ws (h c (by simp)), if_pos hl]
   exact fold_gap_last r out (fun d hd => h d (by simp [hd])) hl
theorem fold_gap {x out : List UInt8} (h : GapC x) (hne : x ≠ []) (hl : out.getLast? ≠ some 32) : x.foldl colStep out = out ++ [32] := by
 obtain ⟨c, r, rfl⟩ := List.exists_cons_of_ne_nil hne
 rw [List.foldl_cons, col_ws (h c (by simp)), if_neg hl]
 exact fold_gap_last r _ (fun d hd => h d (by simp [hd])) (by simp)
theorem last_word {x out : List UInt8} (h : WordC x) : (out ++ x).getLast? ≠ some 32 := by
 obtain ⟨y, c, rfl⟩ : ∃ y c, x = y ++ [c] := ⟨x.dropLast, x.getLast h.ne, (List.dropLast_concat_getLast h.ne).symm⟩
 intro e
 rw [← List.append_assoc, List.getLast?_concat] at e
 injection e with e
 subst e
 have := h.ws 32 (by simp)
 revert this; decide
def spread : List (List UInt8 × List UInt8) → List UInt8
 | [] => []
 | (g, x) :: r => g ++ (x ++ spread r)
def tails (xs : List (List UInt8)) : List UInt8 := xs.flatMap fun x => 32 :: x
theorem joinL_tails (x : List UInt8) : ∀ xs : List (List UInt8), joinL 32 (x :: xs) = x ++ tails xs
 | [] => by simp [joinL, tails]
 | y :: r => by
   show x ++ 32 :: joinL 32 (y :: r) = _
   rw [joinL_tails y r]
   simp [tails]
theorem fold_spread : ∀ (r : List (List UInt8 × List UInt8)) (out : List UInt8), (∀ p ∈ r, GapC p.1 ∧ p.1 ≠ [] ∧ WordC p.2) → out.getLast? ≠ some 32 →
 (spread r).foldl colStep out = out ++ tails (r.map (·.2)) ∧ (out ++ tails (r.map (·.2))).getLast? ≠ some 32
 | [], out, _, hl => by simpa [spread, tails] using hl
 | (g, x) :: r, out, h, hl => by
  obtain ⟨h1, h2, h3⟩ := h (g, x) (by simp)
  have e : (spread ((g, x) :: r)).foldl colStep out = (spread r).foldl colStep ((out ++ [32]) ++ x) := by
   show (g ++ (x ++ spread r)).foldl colStep out = _
   rw [List.foldl_append, List.foldl_append, fold_gap h1 h2 hl, fold_word x _ h3.ws]
  obtain ⟨k1, k2⟩ := fold_spread r ((out ++ [32]) ++ x) (fun p hp => h p (by simp [hp])) (last_word h3)
  rw [e, k1]
  have e2 : (out ++ [32]) ++ x ++ tails (r.map (·.2)) = out ++ tails (((g, x) :: r).map (·.2)) := by simp [tails]
  rw [e2] at k2 ⊢
  exact ⟨rfl, k2⟩
theorem drop_sp {pre t : List UInt8} (hp : ∀ c ∈ pre, sp c = true) (ht : ∀ c, t.head? = some c → sp c = false) : (pre ++ t).dropWhile sp = t := by
 induction pre with
 | nil =>
   cases t with
   | nil => rfl
   | cons c r =>
     have := ht c rfl
     simp [List.dropWhile_cons, this]
 | cons c r ih =>
   rw [List.cons_append, List.dropWhile_cons, if_pos (hp c (by simp))]
   exact ih (fun d hd => hp d (by simp [hd]))
theorem trim_spread {g0 x0 gn : List UInt8} {r : List (List UInt8 × List UInt8)} (h0 : GapC g0) (hx : WordC x0) (hn : GapC gn) (hr : ∀ p ∈ r, GapC p.1 ∧ p.1 ≠ [] ∧ WordC p.2) :
 trimL (g0 ++ (x0 ++ (spread r ++ gn))) = joinL 32 (x0 :: r.map (·.2)) := by
 obtain ⟨pre, hpre, hp⟩ : ∃ pre, g0.foldl colStep [] = pre ∧ ∀ c ∈ pre, sp c = true := by
  by_cases h : g0 = []
  ·exact ⟨[], by rw [h]; rfl, by simp⟩
  ·exact ⟨[32], by rw [fold_gap h0 h (by simp)]; rfl, by simp; decide⟩
 rw [joinL_tails]
 obtain ⟨T, hT⟩ : ∃ T, T = x0 ++ tails (r.map (·.2)) := ⟨_, rfl⟩
 obtain ⟨k1, k2⟩ := fold_spread r (pre ++ x0) hr (last_word hx)
 have eT : pre ++ x0 ++ tails (r.map (·.2)) = pre ++ T := by rw [hT]; simp
 obtain ⟨post, hpost, hq⟩ : ∃ post, gn.foldl colStep (pre ++ T) = pre ++ (T ++ post) ∧ ∀ c ∈ post, sp c = true := by
  by_cases h : gn = []
  ·exact ⟨[], by rw [h]; simp, by simp⟩
  ·refine ⟨[32], ?_, by simp; decide⟩
   rw [fold_gap hn h (by rw [← eT]; exact k2)]
   simp
 have hc : collapse (g0 ++ (x0 ++ (spread r ++ gn))) = pre ++ (T ++ post) := by
  unfold collapse
  rw [List.foldl_append, List.foldl_append, List.foldl_append, hpre, fold_word x0 _ hx.ws, k1, eT, hpost]
 have hlast : ∀ c, T.getLast? = some c → sp c = false := by
  intro c hcl
  rcases List.eq_nil_or_concat (r.map (·.2)) with he | ⟨ys, y, he⟩
  ·rw [hT, he] at hcl
   simp [tails] at hcl
   exact hx.sp c (List.mem_of_getLast? hcl)
  ·have hy : WordC y := by
    have : y ∈ r.map (·.2) := by rw [he]; simp
    simp only [List.mem_map] at this
    obtain ⟨p, hp1, rfl⟩ := this
    exact (hr p hp1).2.2
   obtain ⟨z, d, hz⟩ : ∃ z d, y = z ++ [d] := ⟨y.dropLast, y.getLast hy.ne, (List.dropLast_concat_getLast hy.ne).symm⟩
   have e : T = (x0 ++ tails ys ++ 32 :: z) ++ [d] := by rw [hT, he, hz]; simp [tails]
   rw [e, List.getLast?_concat] at hcl
   injection hcl with hcl
   subst hcl
   exact hy.sp _ (by rw [hz]; simp)
 have hhead : ∀ c, (T ++ post).head? = some c → sp c = false := by
  intro c hch
  obtain ⟨d, q, hd⟩ := List.exists_cons_of_ne_nil hx.ne
  rw [hT, hd] at hch
  simp at hch
  subst hch
  exact hx.sp _ (by rw [hd]; simp)
 unfold trimL
 rw [hc]
 unfold stripF
 rw [drop_sp hp hhead]
 unfold stripB
 rw [List.reverse_append, drop_sp (fun c hc => hq c (by simpa using hc)) (fun c hc => hlast c (by rwa [List.head?_reverse] at hc)), List.reverse_reverse, hT]
theorem okC_ascii {c : UInt8} (h : okC c) : c.toNat ≤ 127 ∧ isWs c = false ∧ sp c = false ∧ c ≠ 64 ∧ c ≠ 32 := by
 have hw : isWord c = true → c.toNat ≤ 122 ∧ 48 ≤ c.toNat ∧ c.toNat ≠ 64 := by
  intro h
  unfold isWord at h
  simp at h
  omega
 have key : ∀ d : UInt8, c = d → c.toNat = d.toNat := fun d e => by rw [e]
 rcases h with h | rfl | rfl | rfl | rfl | rfl | rfl
 ·obtain ⟨h1, h2, h3⟩ := hw h
  have hne : ∀ d : UInt8, d.toNat < 48 → c ≠ d := fun d hd e => by rw [e] at h2; omega
  refine ⟨by omega, ?_, ?_, ?_, hne 32 (by decide)⟩
  ·unfold isWs
   simp [hne 32 (by decide), hne 9 (by decide), hne 10 (by decide), hne 12 (by decide), hne 13 (by decide)]
  ·unfold sp
   simp [hne 32 (by decide), hne 11 (by decide)]
  ·intro e; rw [e] at h3; exact h3 rfl
 all_goals exact ⟨by decide, by decide, by decide, by decide, by decide⟩
theorem part_word {f : Nat} {p : PartV} (h : p.rightB f = true) : WordC (p.text f) := by
 obtain ⟨h1, h2⟩ := part_chars h
 exact ⟨h1, fun c hc => (okC_ascii (h2 c hc)).2.1, fun c hc => (okC_ascii (h2 c hc)).2.2.1⟩
def CronV.last (c : CronV) : Nat := if c.six then 6 else 7
theorem last_le (c : CronV) : c.last ≤ 7 ∧ 6 ≤ c.last := by unfold CronV.last; split <;> omega
theorem parts_words {c : CronV} (h : c.allB 7 = true) : ∀ x ∈ c.parts c.last, WordC x := by
 intro x hx
 simp only [CronV.parts, List.mem_map, List.mem_range] at hx
 obtain ⟨j, hj, rfl⟩ := hx
 have := last_le c
 exact part_word (all_right h j (by omega))
theorem parts_chars {c : CronV} (h : c.allB 7 = true) : ∀ x ∈ c.parts c.last, ∀ d ∈ x, okC d := by
 intro x hx
 simp only [CronV.parts, List.mem_map, List.mem_range] at hx
 obtain ⟨j, hj, rfl⟩ := hx
 have := last_le c
 exact (part_chars (all_right h j (by omega))).2
theorem text_eq (c : CronV) : c.text = joinL 32 (c.parts c.last) := rfl
theorem text_chars {c : CronV} (h : c.allB 7 = true) : ∀ d ∈ c.text, d = 32 ∨ okC d := by
 intro d hd
 rw [text_eq] at hd
 rcases join_mem _ _ _ hd with e | ⟨x, hx, e⟩
 ·exact .inl e
 ·exact .inr (parts_chars h x hx d e)
theorem parts_cons (c : CronV) : c.parts c.last = (c.p 0).text 0 :: (c.p 1).text 1 :: (c.p 2).text 2 :: (c.p 3).text 3 :: (c.p 4).text 4 :: (c.p 5).text 5 :: (if c.six then [] else [(c.p 6).text 6]) := by
 unfold CronV.last
 cases c.six <;> rfl
theorem build_right {c : CronV} (h : c.allB 7 = true) (ht : toldK (c.p 3).k = false ∨ toldK (c.p 5).k = false) :
 ∃ fs, cronT (withYear (c.parts c.last)) = some fs ∧ fs.length = 7 ∧ fs[3]?.map (·.2) = some (c.p 3).dayN ∧ fs[5]?.map (·.2) = some (c.p 5).weekN ∧
  ∀ i, i < 7 → (c.p i).k < 8 → fs[i]?.map (·.1) = some (c.numsAt i) := by
 have r := fun j hj => all_right h j hj
 have f0 : fieldO [] 0 59 ((c.p 0).text 0) = some ((c.p 0).nums 0) := field_part (f := 0) (by decide) (by decide) (r 0 (by decide))
 have f1 : fieldO [] 0 59 ((c.p 1).text 1) = some ((c.p 1).nums 1) := field_part (f := 1) (by decide) (by decide) (r 1 (by decide))
 have f2 : fieldO [] 0 23 ((c.p 2).text 2) = some ((c.p 2).nums 2) := field_part (f := 2) (by decide) (by decide) (r 2 (by decide))
 have f4 : fieldO monthN 1 12 ((c.p 4).text 4) = some ((c.p 4).nums 4) := field_part (f := 4) (by decide) (by decide) (r 4 (by decide))
 have f6 : fieldO [] 1970 3940 ((c.p 6).text 6) = some ((c.p 6).nums 6) := field_part (f := 6) (by decide) (by decide) (r 6 (by decide))
 obtain ⟨z3, f3, e3⟩ := dom_part (r 3 (by decide))
 obtain ⟨z5, f5, e5⟩ := dow_part (r 5 (by decide))
 have told : ∀ (j : Nat), (hj : j < 7) → toldK (c.p j).k = false → toldB ((c.p j).text j) = false := by
  intro j hj hk
  unfold toldK at hk
  simp at hk
  have h7 : (c.p j).k ≠ 7 := by
   intro e
   have := hk (by omega)
   omega
  rw [text_k j _ h7]
  by_cases h0 : (c.p j).k = 0
  ·rw [h0]; simp [textA, toldB]
  ·have h1 := hk h0
   rw [h1]; simp [textA, toldB]
 have htb : (toldB ((c.p 3).text 3) && toldB ((c.p 5).text 5)) = false := by
  rcases ht with ht | ht
  ·rw [told 3 (by decide) ht]; rfl
  ·rw [told 5 (by decide) ht]; simp
 have hy : withYear (c.parts c.last) = [(c.p 0).text 0, (c.p 1).text 1, (c.p 2).text 2, (c.p 3).text 3, (c.p 4).text 4, (c.p 5).text 5, if c.six then [42] else (c.p 6).text 6] := by
  rw [parts_cons]
  unfold withYear
  cases c.six <;> simp
 have f6' : fieldO [] 1970 3940 (if c.six then [42] else (c.p 6).text 6) = some (c.numsAt 6) := by
  have e6 : c.numsAt 6 = if c.six = true then [] else (c.p 6).nums 6 := by
   unfold CronV.numsAt
   simp
  rw [e6]
  cases hs : c.six
  ·rw [if_neg (by decide), if_neg (by decide)]; exact f6
  ·rw [if_pos rfl, if_pos rfl]; rfl
 refine ⟨[((c.p 0).nums 0, 0), ((c.p 1).nums 1, 0), ((c.p 2).nums 2, 0), (z3, (c.p 3).dayN), ((c.p 4).nums 4, 0), (z5.map dec1, (c.p 5).weekN), (c.numsAt 6, 0)], ?_, rfl, rfl, rfl, ?_⟩
 ·rw [hy]
  unfold cronT
  simp only [htb, Bool.false_eq_true, if_false]
  unfold buildO
  simp only [f0, f1, f2, f3, f4, f5, f6']
 ·intro i hi hk
  have hn : ∀ j, j ≠ 5 → j ≠ 6 → c.numsAt j = (c.p j).nums j := fun j h5 h6 => by unfold CronV.numsAt; rw [if_neg h5, if_neg (by rintro ⟨e, _⟩; exact h6 e)]
  rcases lt7 hi with rfl | rfl | rfl | rfl | rfl | rfl | rfl
  ·rw [hn 0 (by decide) (by decide)]; rfl
  ·rw [hn 1 (by decide) (by decide)]; rfl
  ·rw [hn 2 (by decide) (by decide)]; rfl
  ·rw [hn 3 (by decide) (by decide), ← e3 hk]; rfl
  ·rw [hn 4 (by decide) (by decide)]; rfl
  ·have : c.numsAt 5 = ((c.p 5).nums 5).map dec1 := by unfold CronV.numsAt; rw [if_pos rfl]
   rw [this, ← e5 hk]; rfl
  ·rfl
theorem special_none {l : List UInt8} (h : ∀ c, l.head? = some c → c ≠ 64) : specialO l = none := by
 unfold specialO
 rw [if_neg (by intro e; rw [e] at h; exact h 64 rfl rfl), if_neg (by intro e; rw [e] at h; exact h 64 rfl rfl), if_neg (by intro e; rw [e] at h; exact h 64 rfl rfl), if_neg (by intro e; rw [e] at h; exact h 64 rfl rfl), if_neg (by intro e; rw [e] at h; exact h 64 rfl rfl)]
theorem parse_text {c : CronV} (h : c.allB 7 = true) : parseO c.text = cronT (withYear (c.parts c.last)) := by
 have hs : specialO c.text = none := by
  refine special_none fun d hd => ?_
  rcases text_chars h d (List.mem_of_head? hd) with e | e
  ·rw [e]; decide
  ·exact (okC_ascii e).2.2.2.1
 unfold parseO tokens
 rw [hs, Option.getD_none, text_eq, split_join 32 _ (by rw [parts_cons]; simp) (fun x hx hm => (okC_ascii (parts_chars h x hx 32 hm)).2.2.2.2 rfl)]
def spaced (g : Nat → List UInt8) (xs : List (List UInt8)) : Nat → List (List UInt8 × List UInt8) := fun k => (xs.drop k).zipIdx.map fun p => (g (k + p.2), p.1)
theorem trim_text {c : CronV} (h : c.allB 7 = true) : trimL c.text = c.text := by
 have hw := parts_words h
 rw [text_eq]
 obtain ⟨x0, xs, he⟩ := List.exists_cons_of_ne_nil (show c.parts c.last ≠ [] by rw [parts_cons]; simp)
 rw [he] at hw ⊢
 have key := trim_spread (g0 := []) (gn := []) (x0 := x0) (r := xs.map fun x => ([32], x)) (by intro c hc; simp at hc) (hw x0 (by simp)) (by intro c hc; simp at hc) (by
  intro p hp
  simp only [List.mem_map] at hp
  obtain ⟨x, hx, rfl⟩ := hp
  exact ⟨by intro c hc; simp at hc; subst hc; decide, by simp, hw x (by simp [hx])⟩)
 have e1 : ∀ l : List (List UInt8), spread (l.map fun x => ([32], x)) = tails l := by
  intro l
  induction l with
  | nil => rfl
  | cons y r ih => simp only [List.map_cons, spread, ih]; simp [tails]
 have e2 : (xs.map fun x => (([32] : List UInt8), x)).map (·.2) = xs := by
  rw [List.map_map]
  exact List.map_id' xs
 rw [e1, e2] at key
 rw [joinL_tails] at key ⊢
 simpa using key
theorem text_isText {c : CronV} (h : c.allB 7 = true) (hl : c.text.length ≤ 120) : isTextB c.text = true := by
 unfold isTextB asciiB
 rw [Bool.and_eq_true, List.all_eq_true]
 refine ⟨fun d hd => ?_, by simpa using hl⟩
 rcases text_chars h d hd with e | e
 ·rw [e]; decide
 ·simpa using (okC_ascii e).1
structure RightIs (c : CronV) : Prop where
 all : c.allB 7 = true
 told : toldK (c.p 3).k = false ∨ toldK (c.p 5).k = false
 len : c.text.length ≤ 120
theorem right_is {c : CronV} (h : c.rightB = true) : RightIs c := by
 unfold CronV.rightB at h
 simp only [Bool.and_eq_true, Bool.not_eq_true', decide_eq_true_eq, Bool.and_eq_false_iff] at h
 exact ⟨h.1, h.2.1, h.2.2⟩
theorem fields_right {c : CronV} (h : RightIs c) : ∃ fs, implO c.text = some fs ∧ exprO c.text = some fs ∧ isTextB c.text = true ∧ fs.length = 7 ∧ fs[3]?.map (·.2) = some (c.p 3).dayN ∧ fs[5]?.map (·.2) = some (c.p 5).weekN ∧
 ∀ i, i < 7 → (c.p i).k < 8 → fs[i]?.map (·.1) = some (c.numsAt i) := by
 obtain ⟨fs, h1, h2⟩ := build_right h.all h.told
 have ht := text_isText h.all h.len
 have he : exprO c.text = some fs := by
  unfold exprO
  rw [trim_text h.all, parse_text h.all, h1]
 refine ⟨fs, ?_, he, ht, h2⟩
 unfold implO
 rw [ht, if_pos rfl, he]
end Go.Proofs.YtmaffdhcmdhjfaaGreatDoor
namespace Go.Proofs.YtmaffdhcmdhjfaaGreatDoor
open Go.RowKit Go.Lib
def CronV.list (c : CronV) : List Value := c.cells.toList
theorem list_eq (c : CronV) : c.list.toArray = c.cells := by unfold CronV.list; simp
theorem CronAt.range {W : World} {B : Nat} {c : CronV} (h : CronAt W B c) : W.rangeAt B 0 c.list := by
 intro j v hv
 rw [Nat.zero_add]
 simp only [World.cell?, h.blk]
 simpa [CronV.list] using hv
theorem intRows_len {w : World} {base : Nat} {v : Value} {ls : List (List Int)} (h : IntRows w base v ls) : ∃ a cap, v = .slice a ls.length cap := by
 obtain ⟨xs, h1, _⟩ := h
 exact own_any h1
theorem numsAt_len {c : CronV} (h : c.allB 7 = true) (i : Nat) (hi : i < 7) : (c.numsAt i).length ≤ 100000000 := by
 have key : ∀ j, j < 7 → ((c.p j).nums j).length ≤ 30000 := fun j hj => nums_len (all_right h j hj)
 unfold CronV.numsAt
 split
 ·have := key 5 (by omega); simp; omega
 ·split
  ·simp
  ·have := key i hi; omega
def loadCron (v : Value) : Sem Next := do pure (.value (← Instr.loadAt 27 v))
theorem execOp_loadCron (ρ : Operand → Value) (dst : Option Tmp) (x : Operand) (ty : TypeId) (pos : String) (after : Array Edge) (guard : Option (Nat × Bool)) :
 execOp ρ { dst, op := .load 27 x, type := ty, pos, after, guard } = loadCron (ρ x) := rfl
attribute [local go_sem ↓] execOp_loadCron
theorem CronAt.whole {W : World} {B : Nat} {c : CronV} (h : CronAt W B c) : (loadCron (.pointer (some ⟨B, 0, none⟩))).run Tryz.prog W = .ok (.value (.agg c.cells)) W := by
 unfold loadCron
 simp only [Instr.loadAt, Instr.sureAddr, Sem.run_bind, Sem.run_pure, Result.andThen_ok, h.load]
end Go.Proofs.YtmaffdhcmdhjfaaGreatDoor
