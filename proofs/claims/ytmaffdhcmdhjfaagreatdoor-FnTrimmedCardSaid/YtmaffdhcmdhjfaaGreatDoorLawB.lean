/- The plain law of an expression's text, second part: a part's text and its numbers; each field's reading gives them. -/
import Derived.Test.YtmaffdhcmdhjfaaGreatDoorLawA
namespace Go.Proofs.YtmaffdhcmdhjfaaGreatDoor
open Go.RowKit Go.Lib

/-- the text of a part that is no list -/
def textA (f : Nat) (k a b s n : Int) : List UInt8 :=
  if k = 1 then [63]
  else if k = 2 then nameL f a n
  else if k = 3 then nameL f a n ++ 45 :: nameL f b n
  else if k = 4 then nameL f a n ++ 47 :: itoa s
  else if k = 5 then 42 :: 47 :: itoa s
  else if k = 6 then (nameL f a n ++ 45 :: nameL f b n) ++ 47 :: itoa s
  else if k = 8 then [76]
  else if k = 9 then 76 :: 45 :: itoa a
  else if k = 10 then itoa a ++ [87]
  else if k = 11 then [76, 87]
  else if k = 12 then nameL f a n ++ [76]
  else if k = 13 then nameL f a n ++ 35 :: itoa b
  else [42]

def simpleB (f : Nat) (k a b s : Int) : Bool :=
  if k = 2 then decide (leastF f ≤ a) && decide (a ≤ mostF f)
  else if k = 3 then decide (leastF f ≤ a) && decide (a ≤ mostF f) && decide (a ≤ b) && decide (b ≤ mostF f)
  else if k = 4 then decide (leastF f ≤ a) && decide (a ≤ mostF f) && (decide (1 ≤ s) && decide (s ≤ mostF f)) && decide (f < 6)
  else if k = 5 then (decide (1 ≤ s) && decide (s ≤ mostF f)) && decide (f < 6)
  else if k = 6 then decide (leastF f ≤ a) && decide (a ≤ mostF f) && (decide (1 ≤ s) && decide (s ≤ mostF f)) && decide (a ≤ b) && decide (b ≤ mostF f)
  else false

/-- the numbers of a part that is no list -/
def numsA (f : Nat) (k a b s : Int) : List Int :=
  if k = 2 then stepsL a a 1
  else if k = 3 then stepsL a b 1
  else if k = 4 then stepsL a (mostF f) s
  else if k = 5 then stepsL (leastF f) (mostF f) s
  else if k = 6 then stepsL a b s
  else []

/-- the greatest number that the package takes of a field -/
def hiP (f : Nat) : Int := if f = 6 then 3940 else mostF f
theorem hiP_ge (f : Nat) : mostF f ≤ hiP f := by
  unfold hiP
  split
  · have := most_bd f; omega
  · omega
theorem hiP_eq {f : Nat} (h : f < 6) : hiP f = mostF f := by unfold hiP; rw [if_neg (by omega)]

structure NameOk (n : Int) : Prop where
  ok : n = 0 ∨ n = 1 ∨ n = 2

theorem stepsL_self (a : Int) : stepsL a a 1 = [a] := by
  unfold stepsL
  simp

theorem within_true {lo hi x : Int} (h : lo ≤ x) (k : x ≤ hi) : within lo hi x = true := by unfold within; simp [h, k]

theorem range_parse {names : List (List UInt8)} {lo hi a b : Int} {A B : List UInt8} (hA : normalizeO names A = some a) (hB : normalizeO names B = some b)
    (wA : Word A) (wB : Word B) (h1 : lo ≤ a) (h2 : a ≤ b) (h3 : b ≤ hi) : rangeO names lo hi (A ++ 45 :: B) = some (stepsL a b 1) := by
  unfold rangeO
  rw [split_two (word_free wA 45 (by decide)) (word_free wB 45 (by decide))]
  simp only [hA, hB]
  rw [within_true h1 (by omega), within_true (by omega) h3]
  simp [h2]

theorem step_parse {names : List (List UInt8)} {lo hi x y st : Int} {A S : List UInt8} (hA : startO names lo hi A = some (x, y)) (hS : atoiO S = some st)
    (nA : (47 : UInt8) ∉ A) (nS : (47 : UInt8) ∉ S) (h1 : lo ≤ x) (h2 : x ≤ y) (h3 : y ≤ hi) (s1 : 1 ≤ st) (s2 : st ≤ hi) : stepO names lo hi (A ++ 47 :: S) = some (stepsL x y st) := by
  unfold stepO
  rw [split_two nA nS]
  simp only [hA, hS]
  rw [within_true h1 (by omega), within_true (by omega) h3, within_true s1 s2]
  simp [h2]

theorem start_star (names : List (List UInt8)) (lo hi : Int) : startO names lo hi [42] = some (lo, hi) := by unfold startO; rw [if_pos rfl]
theorem word_ne_star {A : List UInt8} (h : Word A) : A ≠ [42] := by
  intro e
  exact word_free h 42 (by decide) (by rw [e]; simp)
theorem start_word {names : List (List UInt8)} {lo hi a : Int} {A : List UInt8} (hA : normalizeO names A = some a) (wA : Word A) : startO names lo hi A = some (a, hi) := by
  unfold startO
  rw [if_neg (word_ne_star wA), if_neg (by simpa using word_free wA 45 (by decide)), hA]
  rfl
theorem start_range {names : List (List UInt8)} {lo hi a b : Int} {A B : List UInt8} (hA : normalizeO names A = some a) (hB : normalizeO names B = some b)
    (wA : Word A) (wB : Word B) : startO names lo hi (A ++ 45 :: B) = some (a, b) := by
  unfold startO
  rw [if_neg (by intro e; have : (45 : UInt8) ∈ [42] := by rw [← e]; simp
                 simp at this), if_pos (by simp), split_two (word_free wA 45 (by decide)) (word_free wB 45 (by decide))]
  simp only [hA, hB]

theorem itoa_word {s : Int} (h : 0 ≤ s) : Word (itoa s) := by rw [itoa_dec s h]; exact word_dec _
theorem itoa_reads {s : Int} (h : 0 ≤ s) (k : s ≤ 3940) : atoiO (itoa s) = some s := by
  rw [itoa_dec s h, atoi_dec _ (by omega)]
  congr 1; omega

/-- what is known of a part that is simple -/
structure Simple (f : Nat) (k a b s n : Int) : Prop where
  h : simpleB f k a b s = true
  n : n = 0 ∨ n = 1 ∨ n = 2

theorem Simple.kind {f : Nat} {k a b s n : Int} (h : Simple f k a b s n) : k = 2 ∨ k = 3 ∨ k = 4 ∨ k = 5 ∨ k = 6 := by
  have := h.h
  unfold simpleB at this
  repeat' split at this
  all_goals first | omega | (simp at this)

theorem simple_range {f : Nat} {a b s n : Int} (h : Simple f 3 a b s n) : leastF f ≤ a ∧ a ≤ b ∧ b ≤ mostF f := by
  have := h.h
  simp [simpleB] at this
  omega
theorem simple_number {f : Nat} {a b s n : Int} (h : Simple f 2 a b s n) : leastF f ≤ a ∧ a ≤ mostF f := by
  have := h.h
  simp [simpleB] at this
  omega
theorem simple_from {f : Nat} {a b s n : Int} (h : Simple f 4 a b s n) : leastF f ≤ a ∧ a ≤ mostF f ∧ 1 ≤ s ∧ s ≤ mostF f ∧ f < 6 := by
  have := h.h
  simp [simpleB] at this
  omega
theorem simple_every {f : Nat} {a b s n : Int} (h : Simple f 5 a b s n) : 1 ≤ s ∧ s ≤ mostF f ∧ f < 6 := by
  have := h.h
  simp [simpleB] at this
  omega
theorem simple_steps {f : Nat} {a b s n : Int} (h : Simple f 6 a b s n) : leastF f ≤ a ∧ a ≤ b ∧ b ≤ mostF f ∧ 1 ≤ s ∧ s ≤ mostF f := by
  have := h.h
  simp [simpleB] at this
  omega

theorem text2 (f : Nat) (a b s n : Int) : textA f 2 a b s n = nameL f a n := by simp [textA]
theorem text3 (f : Nat) (a b s n : Int) : textA f 3 a b s n = nameL f a n ++ 45 :: nameL f b n := by simp [textA]
theorem text4 (f : Nat) (a b s n : Int) : textA f 4 a b s n = nameL f a n ++ 47 :: itoa s := by simp [textA]
theorem text5 (f : Nat) (a b s n : Int) : textA f 5 a b s n = [42] ++ 47 :: itoa s := by simp [textA]
theorem text6 (f : Nat) (a b s n : Int) : textA f 6 a b s n = (nameL f a n ++ 45 :: nameL f b n) ++ 47 :: itoa s := by simp [textA]

theorem least_le_most (f : Nat) : leastF f ≤ mostF f := by
  unfold leastF mostF
  repeat' split
  all_goals omega

/-- a number, a range, steps: each by its own reader -/
theorem number_reads {f : Nat} {a b s n : Int} (h : Simple f 2 a b s n) : normalizeO (namesOf f) (textA f 2 a b s n) = some a ∧ Word (textA f 2 a b s n) := by
  have := simple_number h
  have l := least_bd f
  have m := most_bd f
  rw [text2]
  exact name_reads f a n (by omega) (by omega) h.n
theorem range_reads {f : Nat} {a b s n : Int} (h : Simple f 3 a b s n) : rangeO (namesOf f) (leastF f) (hiP f) (textA f 3 a b s n) = some (numsA f 3 a b s) := by
  have := simple_range h
  have l := least_bd f
  have m := most_bd f
  have p := hiP_ge f
  obtain ⟨r1, w1⟩ := name_reads f a n (by omega) (by omega) h.n
  obtain ⟨r2, w2⟩ := name_reads f b n (by omega) (by omega) h.n
  rw [text3, range_parse r1 r2 w1 w2 (by omega) (by omega) (by omega)]
  simp [numsA]
theorem steps_reads {f : Nat} {k a b s n : Int} (h : Simple f k a b s n) (hk : k = 4 ∨ k = 5 ∨ k = 6) : stepO (namesOf f) (leastF f) (hiP f) (textA f k a b s n) = some (numsA f k a b s) := by
  have l := least_bd f
  have m := most_bd f
  have p := hiP_ge f
  have lm := least_le_most f
  rcases hk with rfl | rfl | rfl
  · have := simple_from h
    have e := hiP_eq this.2.2.2.2
    obtain ⟨r1, w1⟩ := name_reads f a n (by omega) (by omega) h.n
    rw [text4, step_parse (start_word r1 w1) (itoa_reads (by omega) (by omega)) (word_free w1 47 (by decide)) (word_free (itoa_word (by omega)) 47 (by decide)) (by omega) (by omega) (by omega) (by omega) (by omega)]
    simp [numsA, e]
  · have := simple_every h
    have e := hiP_eq this.2.2
    rw [text5, step_parse (start_star _ _ _) (itoa_reads (by omega) (by omega)) (by decide) (word_free (itoa_word (by omega)) 47 (by decide)) (by omega) (by omega) (by omega) (by omega) (by omega)]
    simp [numsA, e]
  · have := simple_steps h
    obtain ⟨r1, w1⟩ := name_reads f a n (by omega) (by omega) h.n
    obtain ⟨r2, w2⟩ := name_reads f b n (by omega) (by omega) h.n
    rw [text6, step_parse (start_range r1 r2 w1 w2) (itoa_reads (by omega) (by omega)) ?_ (word_free (itoa_word (by omega)) 47 (by decide)) (by omega) (by omega) (by omega) (by omega) (by omega)]
    · simp [numsA]
    · simp only [List.mem_append, List.mem_cons, not_or]
      exact ⟨word_free w1 47 (by decide), by decide, word_free w2 47 (by decide)⟩

/-- which letters a simple part's text has -/
structure Marks (l : List UInt8) (k : Int) : Prop where
  ne : l ≠ []
  chars : ∀ c ∈ l, isWord c = true ∨ c = 42 ∨ c = 45 ∨ c = 47
  c47 : l.contains 47 = true ↔ (k = 4 ∨ k = 5 ∨ k = 6)
  c45 : l.contains 45 = true ↔ (k = 3 ∨ k = 6)

theorem word_marks {l : List UInt8} (h : Word l) (c : UInt8) : c ∈ l → isWord c = true := h.2 c

theorem simple_marks {f : Nat} {k a b s n : Int} (h : Simple f k a b s n) : Marks (textA f k a b s n) k := by
  have l := least_bd f
  have m := most_bd f
  have lm := least_le_most f
  rcases h.kind with rfl | rfl | rfl | rfl | rfl
  · obtain ⟨_, w⟩ := number_reads h
    exact ⟨w.1, fun c hc => .inl (w.2 c hc), by simpa using word_free w 47 (by decide), by simpa using word_free w 45 (by decide)⟩
  · have := simple_range h
    obtain ⟨r1, w1⟩ := name_reads f a n (by omega) (by omega) h.n
    obtain ⟨r2, w2⟩ := name_reads f b n (by omega) (by omega) h.n
    rw [text3]
    refine ⟨by simp, ?_, ?_, by simp⟩
    · intro c hc
      simp only [List.mem_append, List.mem_cons] at hc
      rcases hc with hc | rfl | hc
      · exact .inl (w1.2 c hc)
      · simp
      · exact .inl (w2.2 c hc)
    · simpa using ⟨word_free w1 47 (by decide), word_free w2 47 (by decide)⟩
  · have := simple_from h
    obtain ⟨r1, w1⟩ := name_reads f a n (by omega) (by omega) h.n
    have w2 := itoa_word (s := s) (by omega)
    rw [text4]
    refine ⟨by simp, ?_, by simp, ?_⟩
    · intro c hc
      simp only [List.mem_append, List.mem_cons] at hc
      rcases hc with hc | rfl | hc
      · exact .inl (w1.2 c hc)
      · simp
      · exact .inl (w2.2 c hc)
    · simpa using ⟨word_free w1 45 (by decide), word_free w2 45 (by decide)⟩
  · have := simple_every h
    have w2 := itoa_word (s := s) (by omega)
    rw [text5]
    refine ⟨by simp, ?_, by simp, ?_⟩
    · intro c hc
      simp only [List.mem_append, List.mem_cons] at hc
      rcases hc with hc | rfl | hc
      · simp at hc; exact .inr (.inl hc)
      · simp
      · exact .inl (w2.2 c hc)
    · simpa using word_free w2 45 (by decide)
  · have := simple_steps h
    obtain ⟨r1, w1⟩ := name_reads f a n (by omega) (by omega) h.n
    obtain ⟨r2, w2⟩ := name_reads f b n (by omega) (by omega) h.n
    have w3 := itoa_word (s := s) (by omega)
    rw [text6]
    refine ⟨by simp, ?_, by simp, by simp⟩
    intro c hc
    simp only [List.mem_append, List.mem_cons] at hc
    rcases hc with (hc | rfl | hc) | rfl | hc
    · exact .inl (w1.2 c hc)
    · simp
    · exact .inl (w2.2 c hc)
    · simp
    · exact .inl (w3.2 c hc)

theorem Marks.free {l : List UInt8} {k : Int} (h : Marks l k) (c : UInt8) (hc : isWord c = false) (h1 : c ≠ 42) (h2 : c ≠ 45) (h3 : c ≠ 47) : c ∉ l := by
  intro hm
  rcases h.chars c hm with e | e | e | e
  · rw [hc] at e; cases e
  · exact h1 e
  · exact h2 e
  · exact h3 e

theorem Marks.not_any {l : List UInt8} {k : Int} (h : Marks l k) (hk : k = 2 ∨ k = 3 ∨ k = 4 ∨ k = 5 ∨ k = 6) (hw : k = 2 → Word l) : ¬ (l = [42] ∨ l = [63]) := by
  rintro (rfl | rfl)
  · rcases hk with rfl | rfl | rfl | rfl | rfl
    · exact word_ne_star (hw rfl) rfl
    · exact absurd (h.c45.2 (by omega)) (by decide)
    · exact absurd (h.c47.2 (by omega)) (by decide)
    · exact absurd (h.c47.2 (by omega)) (by decide)
    · exact absurd (h.c47.2 (by omega)) (by decide)
  · exact h.free 63 (by decide) (by decide) (by decide) (by decide) (by simp)

/-- a part that is neither a list nor special -/
def plainB (f : Nat) (k a b s : Int) : Bool := (k == 0 || k == 1) || simpleB f k a b s

theorem field_atom {f : Nat} {k a b s n : Int} (hn : n = 0 ∨ n = 1 ∨ n = 2) (h : plainB f k a b s = true) :
    fieldO (namesOf f) (leastF f) (hiP f) (textA f k a b s n) = some (numsA f k a b s) := by
  unfold plainB at h
  simp only [Bool.or_eq_true, beq_iff_eq] at h
  rcases h with (rfl | rfl) | h
  · simp [textA, numsA, fieldO]
  · simp [textA, numsA, fieldO]
  · have hs : Simple f k a b s n := ⟨h, hn⟩
    have M := simple_marks hs
    have hne := M.not_any hs.kind (by rintro rfl; exact (number_reads hs).2)
    have h44 : (textA f k a b s n).contains 44 = false := by
      simpa using M.free 44 (by decide) (by decide) (by decide) (by decide)
    unfold fieldO
    rw [if_neg hne, h44]
    simp only [Bool.false_eq_true, if_false]
    rcases hs.kind with rfl | rfl | rfl | rfl | rfl
    · have e47 : ¬ ((textA f 2 a b s n).contains 47 = true) := by rw [M.c47]; omega
      have e45 : ¬ ((textA f 2 a b s n).contains 45 = true) := by rw [M.c45]; omega
      rw [if_neg e47, if_neg e45, (number_reads hs).1]
      have := simple_number hs
      have p := hiP_ge f
      simp only
      rw [within_true (by omega) (by omega)]
      simp [numsA, stepsL_self]
    · have e47 : ¬ ((textA f 3 a b s n).contains 47 = true) := by rw [M.c47]; omega
      rw [if_neg e47, if_pos (M.c45.2 (by omega))]
      exact range_reads hs
    · rw [if_pos (M.c47.2 (by omega))]; exact steps_reads hs (by omega)
    · rw [if_pos (M.c47.2 (by omega))]; exact steps_reads hs (by omega)
    · rw [if_pos (M.c47.2 (by omega))]; exact steps_reads hs (by omega)
end Go.Proofs.YtmaffdhcmdhjfaaGreatDoor
