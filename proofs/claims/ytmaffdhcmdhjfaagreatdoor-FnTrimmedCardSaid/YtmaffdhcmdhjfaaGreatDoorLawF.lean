/- The plain law of white space of one's own. -/
import Derived.Test.YtmaffdhcmdhjfaaGreatDoorSpN
namespace Go.Proofs.YtmaffdhcmdhjfaaGreatDoor
open Go.RowKit Go.Lib

def gapsFor (gs : List Int) : Nat → List (List UInt8) → List (List UInt8 × List UInt8)
  | _, [] => []
  | k, x :: r => (gapN gs k, x) :: gapsFor gs (k + 1) r
theorem gapsFor_snd (gs : List Int) : ∀ (xs : List (List UInt8)) (k : Nat), (gapsFor gs k xs).map (·.2) = xs
  | [], _ => rfl
  | x :: r, k => by simp [gapsFor, gapsFor_snd gs r (k + 1)]
theorem gapN_ok (gs : List Int) (k : Nat) : GapC (gapN gs k) ∧ gapN gs k ≠ [] := by
  unfold gapN
  split
  · exact ⟨by intro c hc; simp at hc; subst hc; decide, by simp⟩
  · rename_i h; exact ⟨gapL_ws gs k, h⟩
theorem gapsFor_ok (gs : List Int) : ∀ (xs : List (List UInt8)) (k : Nat), (∀ x ∈ xs, WordC x) → ∀ p ∈ gapsFor gs k xs, GapC p.1 ∧ p.1 ≠ [] ∧ WordC p.2
  | [], _, _, p, hp => by simp [gapsFor] at hp
  | x :: r, k, h, p, hp => by
    simp only [gapsFor, List.mem_cons] at hp
    rcases hp with rfl | hp
    · exact ⟨(gapN_ok gs k).1, (gapN_ok gs k).2, h x (by simp)⟩
    · exact gapsFor_ok gs r (k + 1) (fun y hy => h y (by simp [hy])) p hp

theorem word_no32 {x : List UInt8} (h : WordC x) : ∀ c ∈ x, c ≠ 32 := by
  intro c hc e
  have := h.ws c hc
  rw [e] at this
  revert this; decide

theorem fold_noblank (gs : List Int) : ∀ (x o : List UInt8) (k : Nat), (∀ c ∈ x, c ≠ 32) → x.foldl (spaceStep gs) (o, k) = (o ++ x, k)
  | [], o, k, _ => by simp
  | c :: r, o, k, h => by
    have e : spaceStep gs (o, k) c = (o ++ [c], k) := by unfold spaceStep; rw [if_neg (h c (by simp))]
    rw [List.foldl_cons, e, fold_noblank gs r _ k (fun d hd => h d (by simp [hd]))]
    simp

theorem fold_tails (gs : List Int) : ∀ (xs : List (List UInt8)) (o : List UInt8) (k : Nat), (∀ x ∈ xs, WordC x) →
    (tails xs).foldl (spaceStep gs) (o, k) = (o ++ spread (gapsFor gs k xs), k + xs.length)
  | [], o, k, _ => by simp [tails, gapsFor, spread]
  | x :: r, o, k, h => by
    have e : tails (x :: r) = 32 :: (x ++ tails r) := by simp [tails]
    have e2 : spaceStep gs (o, k) 32 = (o ++ gapN gs k, k + 1) := by unfold spaceStep; rw [if_pos rfl]
    rw [e, List.foldl_cons, e2, List.foldl_append, fold_noblank gs x _ _ (word_no32 (h x (by simp))), fold_tails gs r _ _ (fun y hy => h y (by simp [hy]))]
    simp only [gapsFor, spread, List.length_cons, List.append_assoc]
    congr 1
    omega

theorem spaced_eq (gs : List Int) (x0 : List UInt8) (xs : List (List UInt8)) (h : ∀ x ∈ x0 :: xs, WordC x) :
    spacedL gs (joinL 32 (x0 :: xs)) = gapL gs 0 ++ (x0 ++ (spread (gapsFor gs 1 xs) ++ gapL gs (1 + xs.length))) := by
  have key : spaceGo gs (joinL 32 (x0 :: xs)) = (gapL gs 0 ++ x0 ++ spread (gapsFor gs 1 xs), 1 + xs.length) := by
    unfold spaceGo
    rw [joinL_tails, List.foldl_append, fold_noblank gs x0 _ _ (word_no32 (h x0 (by simp))), fold_tails gs xs _ _ (fun y hy => h y (by simp [hy]))]
  unfold spacedL
  rw [key]
  simp

theorem spread_chars : ∀ (r : List (List UInt8 × List UInt8)) (d : UInt8), d ∈ spread r → (∃ p ∈ r, d ∈ p.1) ∨ (∃ p ∈ r, d ∈ p.2)
  | [], d, h => by simp [spread] at h
  | (g, x) :: r, d, h => by
    simp only [spread, List.mem_append] at h
    rcases h with h | h | h
    · exact .inl ⟨(g, x), by simp, h⟩
    · exact .inr ⟨(g, x), by simp, h⟩
    · rcases spread_chars r d h with ⟨p, hp, hd⟩ | ⟨p, hp, hd⟩
      · exact .inl ⟨p, by simp [hp], hd⟩
      · exact .inr ⟨p, by simp [hp], hd⟩

theorem ws_ascii {c : UInt8} (h : isWs c = true) : c.toNat ≤ 127 := by
  unfold isWs at h
  simp only [Bool.or_eq_true, beq_iff_eq] at h
  rcases h with rfl | rfl | rfl | rfl | rfl <;> decide

/-- THE PLAIN LAW: white space of one's own reads as single blanks -/
theorem spaced_law {c : CronV} (h : c.allB 7 = true) (gs : List Int) : trimL (spacedL gs c.text) = c.text ∧ asciiB (spacedL gs c.text) = true := by
  have hw := parts_words h
  have hch := parts_chars h
  rw [text_eq]
  obtain ⟨x0, xs, he⟩ := List.exists_cons_of_ne_nil (show c.parts c.last ≠ [] by rw [parts_cons]; simp)
  rw [he] at hw hch ⊢
  have hgf := gapsFor_ok gs xs 1 (fun x hx => hw x (by simp [hx]))
  refine ⟨?_, ?_⟩
  · rw [spaced_eq gs x0 xs hw, trim_spread (gapL_ws gs 0) (hw x0 (by simp)) (gapL_ws gs _) hgf, gapsFor_snd]
  · rw [spaced_eq gs x0 xs hw]
    unfold asciiB
    rw [List.all_eq_true]
    intro d hd
    simp only [List.mem_append] at hd
    rw [decide_eq_true_eq]
    rcases hd with hd | hd | hd | hd
    · exact ws_ascii (gapL_ws gs 0 d hd)
    · exact (okC_ascii (hch x0 (by simp) d hd)).1
    · rcases spread_chars _ d hd with ⟨p, hp, hd⟩ | ⟨p, hp, hd⟩
      · exact ws_ascii ((hgf p hp).1 d hd)
      · have : p.2 ∈ (gapsFor gs 1 xs).map (·.2) := List.mem_map.mpr ⟨p, hp, rfl⟩
        rw [gapsFor_snd] at this
        exact (okC_ascii (hch p.2 (by simp [this]) d hd)).1
    · exact ws_ascii (gapL_ws gs _ d hd)

theorem spaced_fields {c : CronV} (h : RightIs c) (gs : List Int) (hl : (spacedL gs c.text).length ≤ 120) :
    ∃ fs, implO (spacedL gs c.text) = some fs ∧ exprO (spacedL gs c.text) = some fs ∧ isTextB (spacedL gs c.text) = true ∧ trimL (spacedL gs c.text) = c.text ∧ fs.length = 7 ∧ fs[3]?.map (·.2) = some (c.p 3).dayN ∧ fs[5]?.map (·.2) = some (c.p 5).weekN ∧
      ∀ i, i < 7 → (c.p i).k < 8 → fs[i]?.map (·.1) = some (c.numsAt i) := by
  obtain ⟨fs, h1, h2⟩ := build_right h.all h.told
  obtain ⟨ht, ha⟩ := spaced_law h.all gs
  have hi : isTextB (spacedL gs c.text) = true := by unfold isTextB; rw [ha]; simpa using hl
  have he : exprO (spacedL gs c.text) = some fs := by
    unfold exprO
    rw [ht, parse_text h.all, h1]
  refine ⟨fs, ?_, he, hi, ht, h2⟩
  unfold implO
  rw [hi, if_pos rfl, he]
end Go.Proofs.YtmaffdhcmdhjfaaGreatDoor
