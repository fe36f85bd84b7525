/- The plain law of an expression's text, third part: lists; the two fields of days. -/
import Derived.Test.YtmaffdhcmdhjfaaGreatDoorLawB
namespace Go.Proofs.YtmaffdhcmdhjfaaGreatDoor
open Go.RowKit Go.Lib

theorem sortL_sorted (l : List Int) : (sortL l).Pairwise (· ≤ ·) := by
  have := List.pairwise_mergeSort (le := fun x y : Int => decide (x ≤ y)) (by intro a b c h k; simp at *; omega) (by intro a b; simp; omega) l
  unfold sortL
  exact this.imp (by intro a b h; simpa using h)
theorem sortL_perm (l : List Int) : (sortL l).Perm l := List.mergeSort_perm _ _
theorem sortL_eq {a b : List Int} (h : a.Perm b) : sortL a = sortL b := by
  have hp : (sortL a).Perm (sortL b) := (sortL_perm a).trans (h.trans (sortL_perm b).symm)
  exact hp.eq_of_pairwise (le := (· ≤ ·)) (fun x y _ _ h1 h2 => by omega) (sortL_sorted a) (sortL_sorted b)

def Atom.text (f : Nat) (x : Atom) : List UInt8 := textA f x.k x.a x.b x.s x.n
def Atom.nums (f : Nat) (x : Atom) : List Int := numsA f x.k x.a x.b x.s
def Atom.ok (f : Nat) (x : Atom) : Prop := Simple f x.k x.a x.b x.s x.n

theorem outC_in {c : UInt8} {x : List UInt8} {l : List (List UInt8)} (h : x.contains c = true) : outC c (x :: l) = outC c l := by unfold outC; rw [List.filter_cons, if_neg (by simp only [h]; decide)]
theorem outC_out {c : UInt8} {x : List UInt8} {l : List (List UInt8)} (h : ¬ (x.contains c = true)) : outC c (x :: l) = x :: outC c l := by unfold outC; rw [List.filter_cons, if_pos (by simpa using h)]
theorem inC_in {c : UInt8} {x : List UInt8} {l : List (List UInt8)} (h : x.contains c = true) : inC c (x :: l) = x :: inC c l := by unfold inC; rw [List.filter_cons, if_pos (by simpa using h)]
theorem inC_out {c : UInt8} {x : List UInt8} {l : List (List UInt8)} (h : ¬ (x.contains c = true)) : inC c (x :: l) = inC c l := by unfold inC; rw [List.filter_cons, if_neg (by simpa using h)]

theorem items_parse (f : Nat) : ∀ items : List Atom, (∀ x ∈ items, x.ok f) →
    ∃ zs ss rs, normAll (namesOf f) (outC 45 (outC 47 (items.map (Atom.text f)))) = some zs ∧ catAll (stepO (namesOf f) (leastF f) (hiP f)) (inC 47 (items.map (Atom.text f))) = some ss ∧
      catAll (rangeO (namesOf f) (leastF f) (hiP f)) (inC 45 (outC 47 (items.map (Atom.text f)))) = some rs ∧ (zs ++ ss ++ rs).Perm (items.flatMap (Atom.nums f))
  | [], _ => ⟨[], [], [], rfl, rfl, rfl, List.Perm.nil⟩
  | x :: xs, h => by
    obtain ⟨zs, ss, rs, hz, hs, hr, hp⟩ := items_parse f xs (fun y hy => h y (by simp [hy]))
    have hx : Simple f x.k x.a x.b x.s x.n := h x (by simp)
    have M := simple_marks hx
    rw [List.map_cons, List.flatMap_cons]
    obtain ⟨k, a, b, s, n, it⟩ := x
    simp only at hx M
    have htx : Atom.text f ⟨k, a, b, s, n, it⟩ = textA f k a b s n := rfl
    have hnx : Atom.nums f ⟨k, a, b, s, n, it⟩ = numsA f k a b s := rfl
    rw [htx, hnx]
    rcases hx.kind with rfl | rfl | hk
    · have e47 : ¬ ((textA f 2 a b s n).contains 47 = true) := by rw [M.c47]; omega
      have e45 : ¬ ((textA f 2 a b s n).contains 45 = true) := by rw [M.c45]; omega
      rw [outC_out e47, outC_out e45, inC_out e47, inC_out e45]
      refine ⟨a :: zs, ss, rs, ?_, hs, hr, ?_⟩
      · unfold normAll
        rw [(number_reads hx).1]
        simp only [hz, Option.map_some]
      · have : numsA f 2 a b s = [a] := by simp [numsA, stepsL_self]
        rw [this]
        exact List.Perm.cons a hp
    · have e47 : ¬ ((textA f 3 a b s n).contains 47 = true) := by rw [M.c47]; omega
      have e45 : (textA f 3 a b s n).contains 45 = true := by rw [M.c45]; omega
      rw [outC_out e47, outC_in e45, inC_out e47, inC_in e45]
      refine ⟨zs, ss, numsA f 3 a b s ++ rs, hz, hs, ?_, ?_⟩
      · unfold catAll
        rw [range_reads hx]
        simp only [hr, Option.map_some]
      · refine List.Perm.trans ?_ (List.Perm.append_left _ hp)
        rw [← List.append_assoc]
        refine (List.Perm.append_right rs List.perm_append_comm).trans ?_
        rw [List.append_assoc, List.append_assoc]
    · have hk' : k = 4 ∨ k = 5 ∨ k = 6 := by omega
      have e47 : (textA f k a b s n).contains 47 = true := by rw [M.c47]; exact hk'
      rw [outC_in e47, inC_in e47]
      refine ⟨zs, numsA f k a b s ++ ss, rs, hz, ?_, hr, ?_⟩
      · unfold catAll
        rw [steps_reads hx hk']
        simp only [hs, Option.map_some]
      · refine List.Perm.trans ?_ (List.Perm.append_left _ hp)
        rw [← List.append_assoc, ← List.append_assoc, ← List.append_assoc]
        exact List.Perm.append_right rs (List.Perm.append_right ss List.perm_append_comm)

/-- the text of a part -/
def textP (f : Nat) (k a b s n : Int) (items : List Atom) : List UInt8 := if k = 7 then joinL 44 (items.map (Atom.text f)) else textA f k a b s n
/-- the numbers of a part -/
def numsP (f : Nat) (k a b s : Int) (items : List Atom) : List Int := if k = 7 then sortL (items.flatMap (Atom.nums f)) else numsA f k a b s

structure ListOk (f : Nat) (items : List Atom) : Prop where
  two : 2 ≤ items.length
  ok : ∀ x ∈ items, x.ok f

theorem item_free44 {f : Nat} {x : Atom} (h : x.ok f) : (44 : UInt8) ∉ x.text f := (simple_marks h).free 44 (by decide) (by decide) (by decide) (by decide)

theorem join_mem (c : UInt8) : ∀ (L : List (List UInt8)) (d : UInt8), d ∈ joinL c L → d = c ∨ ∃ x ∈ L, d ∈ x
  | [], d, h => by simp [joinL] at h
  | [x], d, h => .inr ⟨x, by simp, h⟩
  | x :: y :: r, d, h => by
    have h' : d ∈ x ++ c :: joinL c (y :: r) := h
    simp only [List.mem_append, List.mem_cons] at h'
    rcases h' with h' | rfl | h'
    · exact .inr ⟨x, by simp, h'⟩
    · exact .inl rfl
    · rcases join_mem c (y :: r) d h' with e | ⟨z, hz, e⟩
      · exact .inl e
      · exact .inr ⟨z, by simp only [List.mem_cons] at hz ⊢; exact .inr hz, e⟩

theorem join_has (c : UInt8) : ∀ (L : List (List UInt8)), 2 ≤ L.length → c ∈ joinL c L
  | [], h => by simp at h
  | [x], h => by simp at h
  | x :: y :: r, _ => by
    show c ∈ x ++ c :: joinL c (y :: r)
    simp

theorem list_field {f : Nat} {items : List Atom} (h : ListOk f items) :
    fieldO (namesOf f) (leastF f) (hiP f) (joinL 44 (items.map (Atom.text f))) = some (sortL (items.flatMap (Atom.nums f))) := by
  have h44 : (44 : UInt8) ∈ joinL 44 (items.map (Atom.text f)) := join_has 44 _ (by simpa using h.two)
  unfold fieldO
  rw [if_neg (by rintro (e | e) <;> (rw [e] at h44; simp at h44)), if_pos (by simpa using h44)]
  unfold listO
  rw [split_join 44 _ (by intro e; have := h.two; simp at e; subst e; simp at this) (by
    intro x hx
    simp only [List.mem_map] at hx
    obtain ⟨y, hy, rfl⟩ := hx
    exact item_free44 (h.ok y hy))]
  obtain ⟨zs, ss, rs, hz, hs, hr, hp⟩ := items_parse f items h.ok
  simp only [hz, hs, hr]
  rw [sortL_eq hp]

/-- a part that is right and not special, for its field -/
inductive Common (f : Nat) (k a b s : Int) (items : List Atom) : Prop where
  | plain : k ≠ 7 → plainB f k a b s = true → Common f k a b s items
  | list : k = 7 → ListOk f items → Common f k a b s items

theorem field_common {f : Nat} {k a b s n : Int} {items : List Atom} (hn : n = 0 ∨ n = 1 ∨ n = 2) (h : Common f k a b s items) :
    fieldO (namesOf f) (leastF f) (hiP f) (textP f k a b s n items) = some (numsP f k a b s items) := by
  cases h with
  | plain hk h =>
    unfold textP numsP
    rw [if_neg hk, if_neg hk]
    exact field_atom hn h
  | list hk h =>
    unfold textP numsP
    rw [if_pos hk, if_pos hk]
    exact list_field h

/-- the letters of a text -/
def okC (c : UInt8) : Prop := isWord c = true ∨ c = 35 ∨ c = 42 ∨ c = 44 ∨ c = 45 ∨ c = 47 ∨ c = 63

/-- no capital L or W, and no #, in what is common of a field without names, or of days -/
theorem name_free {f : Nat} (hf : f ≠ 4) {a n : Int} (h0 : 0 ≤ a) (hn : n = 0 ∨ n = 1 ∨ n = 2) : (76 : UInt8) ∉ nameL f a n ∧ (f ≠ 5 → (87 : UInt8) ∉ nameL f a n) := by
  by_cases h5 : f = 5 ∧ 1 ≤ a ∧ a ≤ 7
  · obtain ⟨rfl, k1, k2⟩ := h5
    have : a = 1 ∨ a = 2 ∨ a = 3 ∨ a = 4 ∨ a = 5 ∨ a = 6 ∨ a = 7 := by omega
    refine ⟨?_, fun h => absurd rfl h⟩
    rcases hn with rfl | rfl | rfl
    · have : nameL 5 a 0 = decDigits a.toNat := by unfold nameL; rw [if_pos rfl, itoa_dec a h0]
      rw [this]
      intro hm
      have := dec_dig _ _ hm
      revert this
      decide
    · rcases this with rfl | rfl | rfl | rfl | rfl | rfl | rfl <;> decide
    · rcases this with rfl | rfl | rfl | rfl | rfl | rfl | rfl <;> decide
  · rw [num_name n (by omega) h5 h0]
    exact ⟨fun hm => absurd (dec_dig _ _ hm) (by decide), fun _ hm => absurd (dec_dig _ _ hm) (by decide)⟩

theorem itoa_free {s : Int} (h : 0 ≤ s) : (76 : UInt8) ∉ itoa s ∧ (87 : UInt8) ∉ itoa s := by
  rw [itoa_dec s h]
  exact ⟨fun hm => absurd (dec_dig _ _ hm) (by decide), fun hm => absurd (dec_dig _ _ hm) (by decide)⟩

theorem atom_free {f : Nat} (hf : f ≠ 4) {k a b s n : Int} (h : Simple f k a b s n) : (76 : UInt8) ∉ textA f k a b s n ∧ (f ≠ 5 → (87 : UInt8) ∉ textA f k a b s n) := by
  have l := least_bd f
  have m := most_bd f
  have hn := h.n
  rcases h.kind with rfl | rfl | rfl | rfl | rfl
  · have := simple_number h
    rw [text2]
    exact name_free hf (by omega) hn
  · have := simple_range h
    rw [text3]
    have A := name_free hf (a := a) (by omega) hn
    have B := name_free hf (a := b) (by omega) hn
    refine ⟨?_, fun h5 => ?_⟩
    · simp only [List.mem_append, List.mem_cons, not_or]; exact ⟨A.1, by decide, B.1⟩
    · simp only [List.mem_append, List.mem_cons, not_or]; exact ⟨A.2 h5, by decide, B.2 h5⟩
  · have := simple_from h
    rw [text4]
    have A := name_free hf (a := a) (by omega) hn
    have B := itoa_free (s := s) (by omega)
    refine ⟨?_, fun h5 => ?_⟩
    · simp only [List.mem_append, List.mem_cons, not_or]; exact ⟨A.1, by decide, B.1⟩
    · simp only [List.mem_append, List.mem_cons, not_or]; exact ⟨A.2 h5, by decide, B.2⟩
  · have := simple_every h
    rw [text5]
    have B := itoa_free (s := s) (by omega)
    refine ⟨?_, fun h5 => ?_⟩
    · simp only [List.mem_append, List.mem_cons, not_or]; exact ⟨by decide, by decide, B.1⟩
    · simp only [List.mem_append, List.mem_cons, not_or]; exact ⟨by decide, by decide, B.2⟩
  · have := simple_steps h
    rw [text6]
    have A := name_free hf (a := a) (by omega) hn
    have B := name_free hf (a := b) (by omega) hn
    have C := itoa_free (s := s) (by omega)
    refine ⟨?_, fun h5 => ?_⟩
    · simp only [List.mem_append, List.mem_cons, not_or]; exact ⟨⟨A.1, by decide, B.1⟩, by decide, C.1⟩
    · simp only [List.mem_append, List.mem_cons, not_or]; exact ⟨⟨A.2 h5, by decide, B.2 h5⟩, by decide, C.2⟩

theorem plain_or {f : Nat} {k a b s n : Int} (hn : n = 0 ∨ n = 1 ∨ n = 2) (h : plainB f k a b s = true) : (k = 0 ∨ k = 1) ∨ Simple f k a b s n := by
  unfold plainB at h
  simp only [Bool.or_eq_true, beq_iff_eq] at h
  rcases h with h | h
  · exact .inl h
  · exact .inr ⟨h, hn⟩

theorem common_free {f : Nat} (hf : f ≠ 4) {k a b s n : Int} {items : List Atom} (hn : n = 0 ∨ n = 1 ∨ n = 2) (h : Common f k a b s items) :
    (76 : UInt8) ∉ textP f k a b s n items ∧ (f ≠ 5 → (87 : UInt8) ∉ textP f k a b s n items) := by
  unfold textP
  cases h with
  | plain hk h =>
    rw [if_neg hk]
    rcases plain_or hn h with (rfl | rfl) | h
    · refine ⟨?_, fun _ => ?_⟩ <;> simp [textA]
    · refine ⟨?_, fun _ => ?_⟩ <;> simp [textA]
    · exact atom_free hf h
  | list hk h =>
    rw [if_pos hk]
    refine ⟨fun hm => ?_, fun h5 hm => ?_⟩
    · rcases join_mem _ _ _ hm with e | ⟨x, hx, e⟩
      · revert e; decide
      · simp only [List.mem_map] at hx
        obtain ⟨y, hy, rfl⟩ := hx
        exact (atom_free hf (h.ok y hy)).1 e
    · rcases join_mem _ _ _ hm with e | ⟨x, hx, e⟩
      · revert e; decide
      · simp only [List.mem_map] at hx
        obtain ⟨y, hy, rfl⟩ := hx
        exact (atom_free hf (h.ok y hy)).2 h5 e

theorem common_ok {f : Nat} {k a b s n : Int} {items : List Atom} (hn : n = 0 ∨ n = 1 ∨ n = 2) (h : Common f k a b s items) :
    textP f k a b s n items ≠ [] ∧ ∀ c ∈ textP f k a b s n items, okC c ∧ c ≠ 35 := by
  unfold textP
  have simple : ∀ {k a b s n : Int}, Simple f k a b s n → ∀ c ∈ textA f k a b s n, okC c ∧ c ≠ 35 := by
    intro k a b s n h c hc
    rcases (simple_marks h).chars c hc with e | e | e | e
    · exact ⟨.inl e, by rintro rfl; revert e; decide⟩
    · subst e; exact ⟨by unfold okC; simp, by decide⟩
    · subst e; exact ⟨by unfold okC; simp, by decide⟩
    · subst e; exact ⟨by unfold okC; simp, by decide⟩
  cases h with
  | plain hk h =>
    rw [if_neg hk]
    rcases plain_or hn h with (rfl | rfl) | h
    · refine ⟨by simp [textA], ?_⟩
      intro c hc
      simp [textA] at hc
      subst hc
      exact ⟨by unfold okC; simp, by decide⟩
    · refine ⟨by simp [textA], ?_⟩
      intro c hc
      simp [textA] at hc
      subst hc
      exact ⟨by unfold okC; simp, by decide⟩
    · exact ⟨(simple_marks h).ne, simple h⟩
  | list hk h =>
    rw [if_pos hk]
    refine ⟨fun e => ?_, fun c hc => ?_⟩
    · have := join_has 44 (items.map (Atom.text f)) (by simpa using h.two)
      rw [e] at this
      simp at this
    · rcases join_mem _ _ _ hc with e | ⟨x, hx, e⟩
      · subst e; exact ⟨by unfold okC; simp, by decide⟩
      · simp only [List.mem_map] at hx
        obtain ⟨y, hy, rfl⟩ := hx
        exact simple (h.ok y hy) c e
end Go.Proofs.YtmaffdhcmdhjfaaGreatDoor
