/- The plain law of an expression's text, first part: names, numbers, splits. -/
import Derived.Test.YtmaffdhcmdhjfaaGreatDoorSpA
namespace Go.Proofs.YtmaffdhcmdhjfaaGreatDoor
open Go.RowKit Go.Lib

/-! ### Numerals read back -/
theorem parse_snoc : ∀ (l : List UInt8) (acc v : Nat) (c : UInt8), parseUint10 acc l = .ok v → 48 ≤ c.toNat → c.toNat ≤ 57 → v < 1844674407370955161 →
    parseUint10 acc (l ++ [c]) = .ok (v * 10 + (c.toNat - 48))
  | [], acc, v, c, h, h1, h2, hv => by
    simp only [parseUint10] at h
    injection h with h
    subst h
    simp only [List.nil_append, parseUint10]
    rw [if_pos ⟨h1, h2⟩, if_neg (by omega), if_neg (by omega)]
  | x :: r, acc, v, c, h, h1, h2, hv => by
    simp only [List.cons_append, parseUint10] at h ⊢
    split at h
    · rename_i hx
      rw [if_pos hx]
      split at h
      · cases h
      · rename_i ha
        rw [if_neg ha]
        split at h
        · cases h
        · rename_i hb
          rw [if_neg hb]
          exact parse_snoc r _ v c h h1 h2 hv
    · cases h

theorem parse_dec (u : Nat) (h : u < 9223372036854775808) : parseUint10 0 (decDigits u) = .ok u := by
  induction u using Nat.strongRecOn with
  | _ u ih =>
    have hd : ∀ d : Nat, d < 10 → (UInt8.ofNat (48 + d)).toNat = 48 + d := by
      intro d hd
      simp only [UInt8.toNat_ofNat']
      omega
    by_cases h10 : u < 10
    · rw [decDigits, dif_pos h10]
      simp only [parseUint10]
      rw [hd u h10, if_pos (by omega), if_neg (by omega), if_neg (by omega)]
      congr 1
      omega
    · rw [decDigits, dif_neg h10]
      have := parse_snoc (decDigits (u / 10)) 0 (u / 10) (UInt8.ofNat (48 + u % 10)) (ih (u / 10) (by omega) (by omega)) (by rw [hd _ (by omega)]; omega) (by rw [hd _ (by omega)]; omega) (by omega)
      rw [this, hd _ (by omega)]
      congr 1
      omega

theorem dec_ne (u : Nat) : decDigits u ≠ [] := by
  rw [decDigits]
  split <;> simp

theorem dec_dig (u : Nat) : ∀ c ∈ decDigits u, isDig c = true := by
  induction u using Nat.strongRecOn with
  | _ u ih =>
    have hd : ∀ d : Nat, d < 10 → isDig (UInt8.ofNat (48 + d)) = true := by
      intro d hd
      have : (UInt8.ofNat (48 + d)).toNat = 48 + d := by simp only [UInt8.toNat_ofNat']; omega
      unfold isDig
      rw [this]
      simp
      omega
    by_cases h10 : u < 10
    · rw [decDigits, dif_pos h10]
      intro c hc
      rw [List.mem_singleton] at hc
      subst hc
      exact hd u h10
    · rw [decDigits, dif_neg h10]
      intro c hc
      simp only [List.mem_append, List.mem_singleton] at hc
      rcases hc with hc | rfl
      · exact ih (u / 10) (by omega) c hc
      · exact hd _ (by omega)

theorem isDig_iff (c : UInt8) : isDig c = true ↔ 48 ≤ c.toNat ∧ c.toNat ≤ 57 := by unfold isDig; simp

theorem atoi_dec (u : Nat) (h : u < 9223372036854775808) : atoiO (decDigits u) = some (u : Int) := by
  obtain ⟨c, r, hl⟩ := List.exists_cons_of_ne_nil (dec_ne u)
  have hc := dec_dig u c (by rw [hl]; simp)
  rw [isDig_iff] at hc
  have hp := parse_dec u h
  have : atoiAll (decDigits u) = .ok (u : Int) := by
    unfold atoiAll
    rw [hl]
    simp only
    rw [if_neg (by omega)]
    unfold parseMag
    rw [if_neg (by simp), ← hl, hp]
    simp only
    rw [if_neg (by omega), if_neg (by omega), if_neg (by omega)]
  unfold atoiO
  rw [this]

/-! ### Names of numbers -/
def namesOf (f : Nat) : List (List UInt8) := if f = 4 then monthN else if f = 5 then dayN else []

/-- a word: letters and figures, one at least -/
def Word (l : List UInt8) : Prop := l ≠ [] ∧ ∀ c ∈ l, isWord c = true

theorem dig_word {c : UInt8} (h : isDig c = true) : isWord c = true := by
  rw [isDig_iff] at h
  unfold isWord
  simp
  omega

theorem low_dig {c : UInt8} (h : isDig c = true) : lowC c = c := by
  rw [isDig_iff] at h
  exact lowC_out c (by omega)

theorem itoa_dec (n : Int) (h : 0 ≤ n) : itoa n = decDigits n.toNat := by unfold itoa; rw [if_neg (by omega)]

theorem lower_dec (u : Nat) : lowerL (decDigits u) = decDigits u := by
  unfold lowerL
  have : ∀ l : List UInt8, (∀ c ∈ l, isDig c = true) → l.map lowC = l := by
    intro l
    induction l with
    | nil => intro _; rfl
    | cons x xs ih => intro h; simp [low_dig (h x (by simp)), ih (fun c hc => h c (by simp [hc]))]
  exact this _ (dec_dig u)

theorem norm_of_atoi {names : List (List UInt8)} {l : List UInt8} {v : Int} (h : atoiO l = some v) : normalizeO names l = some v := by
  unfold normalizeO
  rw [h]

theorem most_bd (f : Nat) : 7 ≤ mostF f ∧ mostF f ≤ 2199 := by
  unfold mostF
  repeat' split
  all_goals omega
theorem least_bd (f : Nat) : 0 ≤ leastF f ∧ leastF f ≤ 1970 := by
  unfold leastF
  repeat' split
  all_goals omega

theorem word_dec (u : Nat) : Word (decDigits u) := ⟨dec_ne u, fun c hc => dig_word (dec_dig u c hc)⟩

theorem num_name {f : Nat} {a : Int} (n : Int) (h4 : ¬ (f = 4 ∧ 1 ≤ a ∧ a ≤ 12)) (h5 : ¬ (f = 5 ∧ 1 ≤ a ∧ a ≤ 7)) (h0 : 0 ≤ a) : nameL f a n = decDigits a.toNat := by
  have hb : baseL f a = decDigits a.toNat := by
    unfold baseL
    rw [if_neg h4, if_neg h5, itoa_dec a h0]
  unfold nameL
  rw [hb, itoa_dec a h0, lower_dec]
  split <;> simp

/-- a name of a number of the field is a word that reads as the number -/
theorem name_reads (f : Nat) (a n : Int) (h0 : 0 ≤ a) (h1 : a ≤ 2199) (hn : n = 0 ∨ n = 1 ∨ n = 2) : normalizeO (namesOf f) (nameL f a n) = some a ∧ Word (nameL f a n) := by
  by_cases h4 : f = 4 ∧ 1 ≤ a ∧ a ≤ 12
  · obtain ⟨rfl, k1, k2⟩ := h4
    have : a = 1 ∨ a = 2 ∨ a = 3 ∨ a = 4 ∨ a = 5 ∨ a = 6 ∨ a = 7 ∨ a = 8 ∨ a = 9 ∨ a = 10 ∨ a = 11 ∨ a = 12 := by omega
    rcases hn with rfl | rfl | rfl
    · have : nameL 4 a 0 = decDigits a.toNat := by unfold nameL; rw [if_pos rfl, itoa_dec a h0]
      rw [this]
      refine ⟨norm_of_atoi ?_, word_dec _⟩
      rw [atoi_dec _ (by omega)]
      congr 1; omega
    · rcases this with rfl | rfl | rfl | rfl | rfl | rfl | rfl | rfl | rfl | rfl | rfl | rfl <;> exact ⟨by decide, by unfold Word; decide⟩
    · rcases this with rfl | rfl | rfl | rfl | rfl | rfl | rfl | rfl | rfl | rfl | rfl | rfl <;> exact ⟨by decide, by unfold Word; decide⟩
  · by_cases h5 : f = 5 ∧ 1 ≤ a ∧ a ≤ 7
    · obtain ⟨rfl, k1, k2⟩ := h5
      have : a = 1 ∨ a = 2 ∨ a = 3 ∨ a = 4 ∨ a = 5 ∨ a = 6 ∨ a = 7 := by omega
      rcases hn with rfl | rfl | rfl
      · have : nameL 5 a 0 = decDigits a.toNat := by unfold nameL; rw [if_pos rfl, itoa_dec a h0]
        rw [this]
        refine ⟨norm_of_atoi ?_, word_dec _⟩
        rw [atoi_dec _ (by omega)]
        congr 1; omega
      · rcases this with rfl | rfl | rfl | rfl | rfl | rfl | rfl <;> exact ⟨by decide, by unfold Word; decide⟩
      · rcases this with rfl | rfl | rfl | rfl | rfl | rfl | rfl <;> exact ⟨by decide, by unfold Word; decide⟩
    · rw [num_name n h4 h5 h0]
      refine ⟨norm_of_atoi ?_, word_dec _⟩
      rw [atoi_dec _ (by omega)]
      congr 1; omega

/-! ### Splits -/
theorem splitGo_free (c : UInt8) : ∀ (l cur : List UInt8), c ∉ l → splitGo c cur l = [cur ++ l]
  | [], cur, _ => by simp [splitGo]
  | x :: xs, cur, h => by
    unfold splitGo
    rw [if_neg (by intro e; exact h (by simp [e])), splitGo_free c xs _ (fun hm => h (by simp [hm]))]
    simp
theorem splitGo_at (c : UInt8) (r : List UInt8) : ∀ (l cur : List UInt8), c ∉ l → splitGo c cur (l ++ c :: r) = (cur ++ l) :: splitGo c [] r
  | [], cur, _ => by simp [splitGo]
  | x :: xs, cur, h => by
    rw [List.cons_append]
    have e : splitGo c cur (x :: (xs ++ c :: r)) = splitGo c (cur ++ [x]) (xs ++ c :: r) := by
      rw [splitGo, if_neg (by intro e; exact h (by simp [e]))]
    rw [e, splitGo_at c r xs _ (fun hm => h (by simp [hm]))]
    simp
theorem split_free {c : UInt8} {l : List UInt8} (h : c ∉ l) : splitL l c = [l] := by
  unfold splitL; rw [splitGo_free c l [] h]; rfl
theorem split_at {c : UInt8} {l r : List UInt8} (h : c ∉ l) : splitL (l ++ c :: r) c = l :: splitL r c := by
  unfold splitL; rw [splitGo_at c r l [] h]; rfl
theorem split_two {c : UInt8} {l r : List UInt8} (h : c ∉ l) (k : c ∉ r) : splitL (l ++ c :: r) c = [l, r] := by
  rw [split_at h, split_free k]

/-- texts with a letter between -/
def joinL (c : UInt8) : List (List UInt8) → List UInt8
  | [] => []
  | [x] => x
  | x :: y :: r => x ++ c :: joinL c (y :: r)

theorem split_join (c : UInt8) : ∀ (L : List (List UInt8)), L ≠ [] → (∀ x ∈ L, c ∉ x) → splitL (joinL c L) c = L
  | [], h, _ => absurd rfl h
  | [x], _, h => by
    show splitL x c = [x]
    exact split_free (h x (by simp))
  | x :: y :: r, _, h => by
    show splitL (x ++ c :: joinL c (y :: r)) c = x :: y :: r
    rw [split_at (h x (by simp)), split_join c (y :: r) (by simp) (fun z hz => h z (by simp only [List.mem_cons] at hz ⊢; exact .inr hz))]

theorem word_free {l : List UInt8} (h : Word l) (c : UInt8) (hc : isWord c = false) : c ∉ l := by
  intro hm
  have := h.2 c hm
  rw [hc] at this
  cases this
end Go.Proofs.YtmaffdhcmdhjfaaGreatDoor
