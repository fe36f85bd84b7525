/- The plain law of FnRefused: texts that are wrong are no expressions. spec.Wrong. -/
import Derived.Test.YtmaffdhcmdhjfaaGreatDoorNG
import Derived.Lib.SmallJoins
import Derived.Deep.MidRow
import Derived.Deep.CutBlock
set_option linter.unusedSimpArgs false
set_option linter.unusedVariables false
namespace Go.Proofs.YtmaffdhcmdhjfaaGreatDoor
open Go.RowKit Go.Lib
theorem word_of {x : List UInt8} (h1 : x ≠ []) (h2 : ∀ d ∈ x, okC d) : WordC x :=
 ⟨h1, fun c hc => (okC_ascii (h2 c hc)).2.1, fun c hc => (okC_ascii (h2 c hc)).2.2.1⟩
structure Words (xs : List (List UInt8)) : Prop where
 ne : xs ≠ []
 each : ∀ x ∈ xs, x ≠ []
 ok : ∀ x ∈ xs, ∀ d ∈ x, okC d
theorem trim_join {xs : List (List UInt8)} (h : Words xs) : trimL (joinL 32 xs) = joinL 32 xs := by
 have hw : ∀ x ∈ xs, WordC x := fun x hx => word_of (h.each x hx) (h.ok x hx)
 obtain ⟨x0, ys, he⟩ := List.exists_cons_of_ne_nil h.ne
 rw [he] at hw ⊢
 have key := trim_spread (g0 := []) (gn := []) (x0 := x0) (r := ys.map fun x => ([32], x)) (by intro c hc; simp at hc) (hw x0 (by simp)) (by intro c hc; simp at hc) (by
  intro p hp
  simp only [List.mem_map] at hp
  obtain ⟨x, hx, rfl⟩ := hp
  exact ⟨by intro c hc; simp at hc; subst hc; decide, by simp, hw x (by simp [hx])⟩)
 have e1 : ∀ l : List (List UInt8), spread (l.map fun x => ([32], x)) = tails l := by
  intro l
  induction l with
  | nil => rfl
  | cons y r ih => simp only [List.map_cons, spread, ih]; simp [tails]
 have e2 : (ys.map fun x => (([32] : List UInt8), x)).map (·.2) = ys := by
  rw [List.map_map]
  exact List.map_id' ys
 rw [e1, e2] at key
 rw [joinL_tails] at key ⊢
 simpa using key
theorem join_chars {xs : List (List UInt8)} (h : Words xs) : ∀ d ∈ joinL 32 xs, d = 32 ∨ okC d := by
 intro d hd
 rcases join_mem _ _ _ hd with e | ⟨x, hx, e⟩
 ·exact .inl e
 ·exact .inr (h.ok x hx d e)
theorem parse_join {xs : List (List UInt8)} (h : Words xs) : parseO (joinL 32 xs) = cronT (withYear xs) := by
 have hs : specialO (joinL 32 xs) = none := by
  refine special_none fun d hd => ?_
  rcases join_chars h d (List.mem_of_head? hd) with e | e
  ·rw [e]; decide
  ·exact (okC_ascii e).2.2.2.1
 unfold parseO tokens
 rw [hs, Option.getD_none, split_join 32 _ h.ne (fun x hx hm => (okC_ascii (h.ok x hx 32 hm)).2.2.2.2 rfl)]
theorem isText_join {xs : List (List UInt8)} (h : Words xs) (hl : (joinL 32 xs).length ≤ 120) : isTextB (joinL 32 xs) = true := by
 unfold isTextB asciiB
 rw [Bool.and_eq_true, List.all_eq_true]
 refine ⟨fun d hd => ?_, by simpa using hl⟩
 rcases join_chars h d hd with e | e
 ·rw [e]; decide
 ·simpa using (okC_ascii e).1
theorem expr_join {xs : List (List UInt8)} (h : Words xs) : exprO (joinL 32 xs) = cronT (withYear xs) := by
 unfold exprO
 rw [trim_join h, parse_join h]
def badB (f : Nat) (l : List UInt8) : Bool :=
 if f = 0 then (fieldO [] 0 59 l).isNone else if f = 1 then (fieldO [] 0 59 l).isNone else if f = 2 then (fieldO [] 0 23 l).isNone
 else if f = 3 then (domO [] 1 31 l).isNone else if f = 4 then (fieldO monthN 1 12 l).isNone else if f = 5 then (dowO dayN 1 7 l).isNone else false
theorem build_bad {a b c d e f g : List UInt8} {i : Nat} {l : List UInt8} (h : badB i l = true) (hi : [a, b, c, d, e, f, g][i]? = some l) : buildO [a, b, c, d, e, f, g] = none := by
 have h6 : i < 6 := by
  rcases Nat.lt_or_ge i 6 with h' | h'
  ·exact h'
  ·unfold badB at h
   rw [if_neg (by omega), if_neg (by omega), if_neg (by omega), if_neg (by omega), if_neg (by omega), if_neg (by omega)] at h
   cases h
 have hc : i = 0 ∨ i = 1 ∨ i = 2 ∨ i = 3 ∨ i = 4 ∨ i = 5 := by omega
 unfold buildO
 simp only
 rcases hc with rfl | rfl | rfl | rfl | rfl | rfl
 ·injection hi with hi; subst hi
  have h' : fieldO [] 0 59 a = none := by simpa [badB] using h
  rw [h']
 ·injection hi with hi; subst hi
  have h' : fieldO [] 0 59 b = none := by simpa [badB] using h
  rw [h']
  cases fieldO [] 0 59 a <;> rfl
 ·injection hi with hi; subst hi
  have h' : fieldO [] 0 23 c = none := by simpa [badB] using h
  rw [h']
  cases fieldO [] 0 59 a <;> cases fieldO [] 0 59 b <;> rfl
 ·injection hi with hi; subst hi
  have h' : domO [] 1 31 d = none := by simpa [badB] using h
  rw [h']
  cases fieldO [] 0 59 a <;> cases fieldO [] 0 59 b <;> cases fieldO [] 0 23 c <;> rfl
 ·injection hi with hi; subst hi
  have h' : fieldO monthN 1 12 e = none := by simpa [badB] using h
  rw [h']
  cases fieldO [] 0 59 a <;> cases fieldO [] 0 59 b <;> cases fieldO [] 0 23 c <;> cases domO [] 1 31 d <;> rfl
 ·injection hi with hi; subst hi
  have h' : dowO dayN 1 7 f = none := by simpa [badB] using h
  rw [h']
  cases fieldO [] 0 59 a <;> cases fieldO [] 0 59 b <;> cases fieldO [] 0 23 c <;> cases domO [] 1 31 d <;> cases fieldO monthN 1 12 e <;> rfl
def wrongTab (f how : Nat) : Option (Nat × List UInt8) :=
 if how = 3 then some (f, [[54, 48], [54, 48], [50, 52], [51, 50], [49, 51], [56]].getD f [])
 else if how = 4 then if f < 3 then none else some (f, [48])
 else if how = 5 then some (f, if f < 3 then [50, 45, 49] else [51, 45, 50])
 else if how = 6 then some (f, [42, 47, 48])
 else if how = 7 then some (f, [[42, 47, 54, 48], [42, 47, 54, 48], [42, 47, 50, 52], [42, 47, 51, 50], [42, 47, 49, 51], [42, 47, 56]].getD f [])
 else if how = 8 then some (f, [70, 79, 79])
 else if how = 9 then some (3, [76, 44, 51])
 else if how = 10 then some (3, [[48, 87], [51, 50, 87], [76, 45, 48], [76, 45, 51, 50], [108]].getD (f % 5) [])
 else if how = 11 then some (5, [[50, 35, 54], [50, 35, 48], [56, 76], [48, 35, 49]].getD (f % 4) [])
 else none
def okB (c : UInt8) : Bool := isWord c || (c == 35 || (c == 42 || (c == 44 || (c == 45 || (c == 47 || c == 63)))))
theorem okB_ok {c : UInt8} (h : okB c = true) : okC c := by
 unfold okB at h
 simp only [Bool.or_eq_true, beq_iff_eq] at h
 exact h
theorem wrong_tab : ∀ f, f < 6 → ∀ how, how < 12 → ∀ p, wrongTab f how = some p → badB p.1 p.2 = true ∧ p.2 ≠ [] ∧ p.2.all okB = true ∧ p.1 < 6 := by
 have key : ((List.range 6).all fun f => (List.range 12).all fun how => match wrongTab f how with
  | some p => badB p.1 p.2 && (!p.2.isEmpty && (p.2.all okB && decide (p.1 < 6)))
  | none => true) = true := by decide +kernel
 intro f hf how hh p hp
 have h1 := List.all_eq_true.mp key f (List.mem_range.mpr hf)
 have h2 := List.all_eq_true.mp h1 how (List.mem_range.mpr hh)
 rw [hp] at h2
 simp only [Bool.and_eq_true, decide_eq_true_eq, Bool.not_eq_true', List.isEmpty_eq_false_iff] at h2
 exact ⟨h2.1, h2.2.1, h2.2.2.1, h2.2.2.2⟩
def CronV.bent (c : CronV) (f : Nat) (part : List UInt8) (i : Nat) : List UInt8 :=
 if i = f then part else if (i = 3 ∧ f = 5) ∨ (i = 5 ∧ f = 3) then [63] else (c.p i).text i
def CronV.bents (c : CronV) (f : Nat) (part : List UInt8) (k : Nat) : List (List UInt8) := (List.range k).map (c.bent f part)
def CronV.both (c : CronV) : CronV := ⟨fun i => if i = 3 then ⟨2, 1, 0, 0, 0, none, 0, []⟩ else if i = 5 then ⟨2, 2, 0, 0, 0, none, 0, []⟩ else c.p i, c.six⟩
def wrongO (c : CronV) (f how : Int) : Option (List UInt8) :=
 if c.rightB = false ∨ f < 0 ∨ 5 < f then none
 else if how = 0 then some (joinL 32 (c.parts 5))
 else if how = 1 then some (joinL 32 (c.parts 7) ++ [32, 42])
 else if how = 2 then some c.both.text
 else if how = 12 then some []
 else if how < 0 then none
 else (wrongTab f.toNat how.toNat).map fun p => joinL 32 (c.bents p.1 p.2 c.last)
theorem parts_ok {c : CronV} (h : c.allB 7 = true) {k : Nat} (hk : k ≤ 7) (h0 : 0 < k) : Words (c.parts k) := by
 have hp : ∀ x ∈ c.parts k, ∃ j, j < 7 ∧ x = (c.p j).text j := by
  intro x hx
  simp only [CronV.parts, List.mem_map, List.mem_range] at hx
  obtain ⟨j, hj, rfl⟩ := hx
  exact ⟨j, by omega, rfl⟩
 refine ⟨fun e => by have := congrArg List.length e; simp [CronV.parts] at this; omega, fun x hx => ?_, fun x hx => ?_⟩
 ·obtain ⟨j, hj, rfl⟩ := hp x hx
  exact (part_chars (all_right h j hj)).1
 ·obtain ⟨j, hj, rfl⟩ := hp x hx
  exact (part_chars (all_right h j hj)).2
theorem cronT_bad {xs : List (List UInt8)} {i : Nat} {l : List UInt8} (h : badB i l = true) (hi : xs[i]? = some l) (hl : xs.length = 6 ∨ xs.length = 7) : cronT (withYear xs) = none := by
 have hy : (withYear xs)[i]? = some l ∧ (withYear xs).length = 7 := by
  unfold withYear
  rcases hl with hl | hl
  ·rw [if_pos hl]
   have : i < xs.length := (List.getElem?_eq_some_iff.mp hi).1
   exact ⟨by rw [List.getElem?_append_left this]; exact hi, by simp [hl]⟩
  ·rw [if_neg (by omega)]; exact ⟨hi, hl⟩
 obtain ⟨a, b, c, d, e, f, g, he⟩ := seven hy.2
 rw [he] at hy ⊢
 rw [cronT_seven, build_bad h hy.1]
 simp
theorem wrong_law {c : CronV} {f how : Int} {t : List UInt8} (h : wrongO c f how = some t) (hl : t.length ≤ 120) : isTextB t = true ∧ exprO t = none := by
 unfold wrongO at h
 split at h
 ·cases h
 rename_i hcond
 simp only [not_or, Bool.not_eq_false] at hcond
 obtain ⟨hr, hf0, hf5⟩ := hcond
 have hr := (right_is hr).all
 split at h
 ·injection h with h; subst h
  have hw := parts_ok hr (k := 5) (by omega) (by omega)
  exact ⟨isText_join hw hl, by rw [expr_join hw, cronT_len]; simp [withYear, CronV.parts]⟩
 split at h
 ·injection h with h; subst h
  have hw := parts_ok hr (k := 7) (by omega) (by omega)
  have e : joinL 32 (c.parts 7) ++ [32, 42] = joinL 32 (c.parts 7 ++ [[42]]) := (joinL_snoc 32 _ _ hw.ne).symm
  rw [e] at hl ⊢
  have hw2 : Words (c.parts 7 ++ [[42]]) := ⟨by simp, fun x hx => by
   rcases List.mem_append.mp hx with hx | hx
   ·exact hw.each x hx
   ·simp at hx; subst hx; simp, fun x hx => by
   rcases List.mem_append.mp hx with hx | hx
   ·exact hw.ok x hx
   ·simp at hx; subst hx
    intro d hd
    simp at hd; subst hd
    exact okB_ok (by decide)⟩
  exact ⟨isText_join hw2 hl, by rw [expr_join hw2, cronT_len]; simp [withYear, CronV.parts]⟩
 split at h
 ·injection h with h; subst h
  have hb : c.both.allB 7 = true := by
   unfold CronV.allB
   rw [List.all_eq_true]
   intro j hj
   have hj := List.mem_range.mp hj
   have hc := all_right hr j hj
   unfold CronV.both
   simp only
   split
   ·rename_i h3; subst h3; decide
   ·split
    ·rename_i h5; subst h5; decide
    ·exact hc
  refine ⟨text_isText hb hl, ?_⟩
  unfold exprO
  rw [trim_text hb, parse_text hb]
  have t3 : (c.both.p 3).text 3 = [49] := by
   have : (PartV.mk 2 1 0 0 0 none 0 []).text 3 = [49] := by decide +kernel
   exact this
  have t5 : (c.both.p 5).text 5 = [50] := by
   have : (PartV.mk 2 2 0 0 0 none 0 []).text 5 = [50] := by decide +kernel
   exact this
  have hy : withYear (c.both.parts c.both.last) = [(c.both.p 0).text 0, (c.both.p 1).text 1, (c.both.p 2).text 2, [49], (c.both.p 4).text 4, [50], if c.both.six then [42] else (c.both.p 6).text 6] := by
   rw [parts_cons, t3, t5]
   unfold withYear
   cases c.both.six <;> simp
  rw [hy, cronT_seven]
  rfl
 split at h
 ·injection h with h; subst h
  decide +kernel
 split at h
 ·cases h
 rename_i h0 h1 h2 h12 hneg
 cases hp : wrongTab f.toNat how.toNat with
 | none => rw [hp] at h; cases h
 | some p =>
   rw [hp] at h
   injection h with h
   subst h
   have hh : how.toNat < 12 := by
    rcases Nat.lt_or_ge how.toNat 12 with h' | h'
    ·exact h'
    ·unfold wrongTab at hp
     rw [if_neg (by omega), if_neg (by omega), if_neg (by omega), if_neg (by omega), if_neg (by omega), if_neg (by omega), if_neg (by omega), if_neg (by omega), if_neg (by omega)] at hp
     cases hp
   obtain ⟨b1, b2, b3, b4⟩ := wrong_tab f.toNat (by omega) how.toNat hh p hp
   obtain ⟨pf, pl⟩ := p
   simp only at b1 b2 b3 b4 hl ⊢
   have hlast := last_le c
   have hmem : ∀ x ∈ c.bents pf pl c.last, x = pl ∨ x = [63] ∨ ∃ j, j < 7 ∧ x = (c.p j).text j := by
    intro x hx
    simp only [CronV.bents, List.mem_map, List.mem_range] at hx
    obtain ⟨j, hj, rfl⟩ := hx
    unfold CronV.bent
    split
    ·exact .inl rfl
    ·split
     ·exact .inr (.inl rfl)
     ·exact .inr (.inr ⟨j, by omega, rfl⟩)
   have hw : Words (c.bents pf pl c.last) := by
    refine ⟨fun e => by have := congrArg List.length e; simp [CronV.bents] at this; omega, fun x hx => ?_, fun x hx => ?_⟩
    ·rcases hmem x hx with rfl | rfl | ⟨j, hj, rfl⟩
     ·exact b2
     ·simp
     ·exact (part_chars (all_right hr j hj)).1
    ·rcases hmem x hx with rfl | rfl | ⟨j, hj, rfl⟩
     ·intro d hd
      exact okB_ok (List.all_eq_true.mp b3 d hd)
     ·intro d hd
      simp at hd; subst hd
      exact okB_ok (by decide)
     ·exact (part_chars (all_right hr j hj)).2
   refine ⟨isText_join hw hl, ?_⟩
   rw [expr_join hw]
   refine cronT_bad (i := pf) (l := pl) b1 ?_ (by simp [CronV.bents]; omega)
   unfold CronV.bents
   rw [List.getElem?_map, List.getElem?_range (by omega)]
   simp [CronV.bent]
end Go.Proofs.YtmaffdhcmdhjfaaGreatDoor
namespace Go.Proofs.YtmaffdhcmdhjfaaGreatDoor
open Go.RowKit Go.Lib
attribute [local go_sem ↓] execOp_loadCron
theorem CronAt.of_blk {W : World} {B : Nat} {c : CronV} (h : W.heap[B]? = some (.cells c.cells 27 (0, 0))) : CronAt W B c := by
 have hc : ∀ i, W.cell? ⟨B, i, none⟩ = c.cells[i]? := fun i => by simp [World.cell?, h]
 refine ⟨?_, ?_, ?_, ?_, ?_, ?_, by rw [hc]; rfl, h⟩
 all_goals
  intro j hj
  rw [hc]
  rcases lt7 hj with rfl | rfl | rfl | rfl | rfl | rfl | rfl <;> rfl
theorem CronAt.set_six {W : World} {B : Nat} {c : CronV} (h : CronAt W B c) (b : Bool) : CronAt (W.setCell ⟨B, 42, none⟩ (.bool b)) B ⟨c.p, b⟩ :=
 CronAt.of_blk (by rw [Joins.block_setCell h.blk]; simp [CronV.cells, PartV.cells])
theorem wrong_none1 {c : CronV} {f how : Int} (h : c.rightB = false) : wrongO c f how = none := by unfold wrongO; rw [if_pos (.inl h)]
theorem wrong_none2 {c : CronV} {f how : Int} (h : f < 0) : wrongO c f how = none := by unfold wrongO; rw [if_pos (.inr (.inl h))]
theorem wrong_none3 {c : CronV} {f how : Int} (h : 5 < f) : wrongO c f how = none := by unfold wrongO; rw [if_pos (.inr (.inr h))]
theorem wrong_go {c : CronV} {F : Nat} {how : Int} (h : c.rightB = true) (hF : F < 6) : wrongO c F how = if how = 0 then some (joinL 32 (c.parts 5))
 else if how = 1 then some (joinL 32 (c.parts 7) ++ [32, 42])
 else if how = 2 then some c.both.text
 else if how = 12 then some []
 else if how < 0 then none
 else (wrongTab F how.toNat).map fun p => joinL 32 (c.bents p.1 p.2 c.last) := by
 unfold wrongO
 rw [if_neg (by rw [h]; simp; omega)]
 rfl
theorem bents_succ (c : CronV) (f : Nat) (p : List UInt8) (k : Nat) : c.bents f p (k + 1) = c.bents f p k ++ [c.bent f p k] := by simp [CronV.bents, List.range_succ]
theorem bents_join (c : CronV) (f : Nat) (p : List UInt8) (k : Nat) : joinL 32 (c.bents f p (k + 1)) = if 0 < k then joinL 32 (c.bents f p k) ++ 32 :: c.bent f p k else c.bent f p k := by
 rw [bents_succ]
 by_cases h : 0 < k
 ·rw [if_pos h]
  exact joinL_snoc 32 _ _ (by intro e; have := congrArg List.length e; simp [CronV.bents] at this; omega)
 ·have : k = 0 := by omega
  subst this
  rfl
theorem joinL_bd {c : CronV} (h : CronOk c) : ∀ k, k ≤ 7 → (joinL 32 (c.parts k)).length ≤ k * 431
 | 0, _ => by simp [CronV.parts, joinL]
 | k + 1, hk => by
   rw [parts_join]
   have h1 := joinL_bd h k (by omega)
   have h2 := part_len (f := k) (h.part k (by omega))
   split
   ·simp; omega
   ·omega
theorem both_ok {c : CronV} (h : CronOk c) : CronOk c.both := ⟨fun j hj => by
 have hc := h.part j hj
 unfold CronV.both
 simp only
 split
 ·exact ⟨by constructor <;> decide, by constructor <;> decide, by constructor <;> decide, fun h7 => by simp at h7⟩
 ·split
  ·exact ⟨by constructor <;> decide, by constructor <;> decide, by constructor <;> decide, fun h7 => by simp at h7⟩
  ·exact hc⟩
theorem both_items {W : World} {c : CronV} (h : CronItems W c) : CronItems W c.both := fun j hj => by
 have hc := h j hj
 unfold CronV.both
 simp only
 split
 ·exact fun h => absurd rfl h
 ·split
  ·exact fun h => absurd rfl h
  ·exact hc
def storePart (p v : Value) : Sem Next := do Instr.storeAt 24 p v; pure .skip
theorem execOp_storePart (ρ : Operand → Value) (dst : Option Tmp) (x y : Operand) (ty : TypeId) (pos : String) (after : Array Edge) (guard : Option (Nat × Bool)) :
 execOp ρ { dst, op := .store 24 x y, type := ty, pos, after, guard } = storePart (ρ x) (ρ y) := rfl
def CronV.setP (c : CronV) (j : Nat) (p : PartV) : CronV := ⟨fun i => if i = j then p else c.p i, c.six⟩
theorem set_both (c : CronV) : (c.setP 3 ⟨2, 1, 0, 0, 0, none, 0, []⟩).setP 5 ⟨2, 2, 0, 0, 0, none, 0, []⟩ = c.both := by
 unfold CronV.setP CronV.both
 congr 1
 funext i
 simp only
 by_cases h3 : i = 3
 ·subst h3; rfl
 ·by_cases h5 : i = 5
  ·subst h5; rfl
  ·rw [if_neg h5, if_neg h3, if_neg h3, if_neg h5]
theorem below_cells {B b : Nat} {a : World} (hb : B ≤ b) : ∀ (vs : List Value) (o : Nat) (w : World), RowKit.Below B a w → RowKit.Below B a (w.setCells b o vs)
 | [], _, _, h => h
 | v :: vs, o, w, h => below_cells hb vs (o + 1) _ (Below.setCell h (p := ⟨b, o, none⟩) hb v)
theorem u24 : (Tryz.prog.info? 24).map (·.size) = some 6 := by kernel_rfl
theorem set_cells3 (c : CronV) (q : PartV) : ((((((c.cells.setIfInBounds 18 (.int .i64 q.k)).setIfInBounds 19 (.int .i64 q.a)).setIfInBounds 20 (.int .i64 q.b)).setIfInBounds 21 (.int .i64 q.s)).setIfInBounds 22 (.int .i64 q.n)).setIfInBounds 23 (.slice q.ia q.items.length q.cap)) = (c.setP 3 q).cells := by
 simp [CronV.cells, PartV.cells, CronV.setP]
theorem set_cells5 (c : CronV) (q : PartV) : ((((((c.cells.setIfInBounds 30 (.int .i64 q.k)).setIfInBounds 31 (.int .i64 q.a)).setIfInBounds 32 (.int .i64 q.b)).setIfInBounds 33 (.int .i64 q.s)).setIfInBounds 34 (.int .i64 q.n)).setIfInBounds 35 (.slice q.ia q.items.length q.cap)) = (c.setP 5 q).cells := by
 simp [CronV.cells, PartV.cells, CronV.setP]
theorem store_part {W0 W W' : World} {B : Nat} {c : CronV} (h : CronAt W B c) (j o : Nat) (ho : o + 6 ≤ 43) (q : PartV)
 (hc : ((((((c.cells.setIfInBounds o (.int .i64 q.k)).setIfInBounds (o + 1) (.int .i64 q.a)).setIfInBounds (o + 2) (.int .i64 q.b)).setIfInBounds (o + 3) (.int .i64 q.s)).setIfInBounds (o + 4) (.int .i64 q.n)).setIfInBounds (o + 5) (.slice q.ia q.items.length q.cap)) = (c.setP j q).cells)
 (hW : W' = W.setCells B o q.cells) (x : Ext W0 W) (hB : W0.heap.size ≤ B) :
 (storePart (.pointer (some ⟨B, o, none⟩)) (.agg q.cells.toArray)).run Tryz.prog W = .ok .skip W' ∧ CronAt W' B (c.setP j q) ∧ Ext W0 W' := by
 refine ⟨?_, ?_, ?_⟩
 ·unfold storePart
  have := run_storeAt_mid (P := Tryz.prog) W B o 24 q.cells.toArray ?_ u24 (by simp [PartV.cells, Value.oneCell'])
  ·simp only [Sem.run_bind, Sem.run_pure, this, Result.andThen_ok, hW]
  ·intro i hi
   have hi6 : i < 6 := hi
   exact ⟨by rw [Joins.cell_of_block h.blk, Array.getElem?_eq_getElem (by rw [c.size]; omega)]; rfl, Joins.unfrozen_of_block h.blk _⟩
 ·refine CronAt.of_blk ?_
  rw [hW, ← hc]
  exact Joins.block_setCell (Joins.block_setCell (Joins.block_setCell (Joins.block_setCell (Joins.block_setCell (Joins.block_setCell h.blk _) _) _) _) _) _
 ·rw [hW]; exact below_cells hB _ _ _ x
attribute [local go_sem ↓] execOp_storePart
def WrongPost (w : World) (r : Option (List UInt8)) (e : Ending) (w' : World) : Prop :=
 ((∃ t, r = some t ∧ e = .returned (.tuple #[.string (mk t), .bool true])) ∨ (r = none ∧ e = .returned (.tuple #[.string (mk []), .bool false]))) ∧ Ext w w'
set_option maxHeartbeats 6400000 in
set_option maxRecDepth 1000000 in
theorem wrong12 (c : CronV) (hO : CronIn c) (F : Nat) (hF : F < 6) (hr : c.rightB = true) (w : World) (hI : CronItems w c) (hE : Env w) :
 Calls Tryz.prog 33 #[.agg c.cells, .int .i64 F, .int .i64 12] w (WrongPost w (wrongO c F 12)) := by
 have HC : Hid (CronAt (w.alloc (.cells c.cells 27)) w.heap.size c) := cron_alloc w c
 have HX : Hid (Ext w (w.alloc (.cells c.cells 27))) := Ext.alloc _ _
 have hcw := HC.out.whole
 have HI := Lib.hid hI
 have HO := Lib.hid hO
 have HRB := Lib.hid hr
 have HRI := Lib.hid (right_is hr)
 have HW := Lib.hid (wrong_go (how := 12) hr hF)
 generalize hR : wrongO c F 12 = R at *
 unfold WrongPost
 have h0F : ¬ ((F : Int) < 0) := by omega
 have h5F : ¬ ((5 : Int) < F) := by omega
 clear hR hI hO
 go_enter Tryz.func33, Tryz.ntmps33
 go_wp2_with fail
 go_at_call 13
 refine (right_cron c HO.out _ (HI.out.ext HX.out) (hE.ext HX.out)).mono ?_
 rintro e w1 ⟨rfl, x1⟩
 rw [HRB.out]
 have C1 := Lib.hid (HC.out.ext x1)
 have X1 := Lib.hid (HX.out.trans x1)
 clear x1 hcw hr
 have HW2 : Hid (R = some []) := by show _ = _; rw [HW.out]; rfl
 go_wp2_with fail
 go_ret2
 exact ⟨.inl ⟨_, HW2.out, rfl⟩, X1.out⟩
set_option maxHeartbeats 6400000 in
set_option maxRecDepth 1000000 in
theorem wrong_else (c : CronV) (hO : CronIn c) (F : Nat) (hF : F < 6) (hr : c.rightB = true) (how : Int) (hh : how < 0 ∨ 12 < how) (w : World) (hI : CronItems w c) (hE : Env w) :
 Calls Tryz.prog 33 #[.agg c.cells, .int .i64 F, .int .i64 how] w (WrongPost w (wrongO c F how)) := by
 have HC : Hid (CronAt (w.alloc (.cells c.cells 27)) w.heap.size c) := cron_alloc w c
 have HX : Hid (Ext w (w.alloc (.cells c.cells 27))) := Ext.alloc _ _
 have hcw := HC.out.whole
 have HI := Lib.hid hI
 have HO := Lib.hid hO
 have HRB := Lib.hid hr
 have HRI := Lib.hid (right_is hr)
 have HW := Lib.hid (wrong_go (how := how) hr hF)
 generalize hR : wrongO c F how = R at *
 unfold WrongPost
 have h0F : ¬ ((F : Int) < 0) := by omega
 have h5F : ¬ ((5 : Int) < F) := by omega
 clear hR hI hO
 go_enter Tryz.func33, Tryz.ntmps33
 go_wp2_with fail
 go_at_call 13
 refine (right_cron c HO.out _ (HI.out.ext HX.out) (hE.ext HX.out)).mono ?_
 rintro e w1 ⟨rfl, x1⟩
 rw [HRB.out]
 have C1 := Lib.hid (HC.out.ext x1)
 have X1 := Lib.hid (HX.out.trans x1)
 clear x1 hcw hr
 have HW2 : Hid (R = none) := by
  show _ = _
  rw [HW.out, if_neg (by omega), if_neg (by omega), if_neg (by omega), if_neg (by omega)]
  rcases hh with hh | hh
  ·rw [if_pos hh]
  ·rw [if_neg (by omega)]
   unfold wrongTab
   rw [if_neg (by omega), if_neg (by omega), if_neg (by omega), if_neg (by omega), if_neg (by omega), if_neg (by omega), if_neg (by omega), if_neg (by omega), if_neg (by omega)]
   rfl
 have e0 : (how == 0) = false := by rw [beq_eq_false_iff_ne]; omega
 have e1 : (how == 1) = false := by rw [beq_eq_false_iff_ne]; omega
 have e2 : (how == 2) = false := by rw [beq_eq_false_iff_ne]; omega
 have e3 : (how == 3) = false := by rw [beq_eq_false_iff_ne]; omega
 have e4 : (how == 4) = false := by rw [beq_eq_false_iff_ne]; omega
 have e5 : (how == 5) = false := by rw [beq_eq_false_iff_ne]; omega
 have e6 : (how == 6) = false := by rw [beq_eq_false_iff_ne]; omega
 have e7 : (how == 7) = false := by rw [beq_eq_false_iff_ne]; omega
 have e8 : (how == 8) = false := by rw [beq_eq_false_iff_ne]; omega
 have e9 : (how == 9) = false := by rw [beq_eq_false_iff_ne]; omega
 have e10 : (how == 10) = false := by rw [beq_eq_false_iff_ne]; omega
 have e11 : (how == 11) = false := by rw [beq_eq_false_iff_ne]; omega
 have e12 : (how == 12) = false := by rw [beq_eq_false_iff_ne]; omega
 clear hh
 go_wp2_with fail
 go_ret2
 exact ⟨.inr ⟨HW2.out, rfl⟩, X1.out⟩
set_option maxHeartbeats 6400000 in
set_option maxRecDepth 1000000 in
theorem wrong0 (c : CronV) (hO : CronIn c) (F : Nat) (hF : F < 6) (hr : c.rightB = true) (w : World) (hI : CronItems w c) (hE : Env w) :
 Calls Tryz.prog 33 #[.agg c.cells, .int .i64 F, .int .i64 0] w (WrongPost w (wrongO c F 0)) := by
 have HC : Hid (CronAt (w.alloc (.cells c.cells 27)) w.heap.size c) := cron_alloc w c
 have HX : Hid (Ext w (w.alloc (.cells c.cells 27))) := Ext.alloc _ _
 have hcw := HC.out.whole
 have HI := Lib.hid hI
 have HO := Lib.hid hO
 have HRB := Lib.hid hr
 have HRI := Lib.hid (right_is hr)
 have HW := Lib.hid (wrong_go (how := 0) hr hF)
 generalize hR : wrongO c F 0 = R at *
 unfold WrongPost
 have h0F : ¬ ((F : Int) < 0) := by omega
 have h5F : ¬ ((5 : Int) < F) := by omega
 clear hR hI hO
 go_enter Tryz.func33, Tryz.ntmps33
 go_wp2_with fail
 go_at_call 13
 refine (right_cron c HO.out _ (HI.out.ext HX.out) (hE.ext HX.out)).mono ?_
 rintro e w1 ⟨rfl, x1⟩
 rw [HRB.out]
 have C1 := Lib.hid (HC.out.ext x1)
 have X1 := Lib.hid (HX.out.trans x1)
 clear x1 hcw hr
 have HW2 : Hid (R = some (joinL 32 (c.parts 5))) := by show _ = _; rw [HW.out]; rfl
 have hfz : w1.frozen? ⟨w.heap.size, 42, none⟩ = false := frozen_of_row w1 w.heap.size 42 _ 27 C1.out.blk
 have c42 := C1.out.six
 obtain ⟨W2, hW2⟩ : ∃ W2, W2 = w1.setCell ⟨w.heap.size, 42, none⟩ (.bool true) := ⟨_, rfl⟩
 have C2 : Hid (CronAt W2 w.heap.size ⟨c.p, true⟩) := by show CronAt _ _ _; rw [hW2]; exact C1.out.set_six true
 have X2 : Hid (Ext w W2) := by show Ext _ _; rw [hW2]; exact X1.out.set (Nat.le_refl _) 42 _
 have hcw := C2.out.whole
 rw [hW2] at hcw
 have HT : Hid (∀ W, Ext w W → Calls Tryz.prog 14 #[.agg (CronV.mk c.p true).cells] W fun e W' => e = .returned (.string (mk (joinL 32 (c.parts 6)))) ∧ Ext W W') := fun W hW =>
  text_cron ⟨c.p, true⟩ ⟨(cron_ok HO.out HRI.out.all).part⟩ W (HI.out.ext hW) (hE.ext hW)
 go_wp2_with fail
 go_at_call 14
 refine (HT.out _ (by first | exact X2.out | (rw [← hW2]; exact X2.out))).mono ?_
 rintro e w3 ⟨rfl, x3⟩
 rw [← hW2] at x3
 have C3 := Lib.hid (C2.out.ext x3)
 have X3 := Lib.hid (X2.out.trans x3)
 clear hcw hfz c42 hW2 x3 HC C1 HX
 have d0 := C3.out.k 5 (by omega)
 have d1 := C3.out.a 5 (by omega)
 have d2 := C3.out.b 5 (by omega)
 have d3 := C3.out.s 5 (by omega)
 have d4 := C3.out.n 5 (by omega)
 have d5 := C3.out.it 5 (by omega)
 have HP : Hid (∀ W, Ext w W → Calls Tryz.prog 37 #[.int .i64 5, .agg #[.int .i64 (c.p 5).k, .int .i64 (c.p 5).a, .int .i64 (c.p 5).b, .int .i64 (c.p 5).s, .int .i64 (c.p 5).n, .slice (c.p 5).ia (c.p 5).items.length (c.p 5).cap]] W fun e W' => e = .returned (.string (mk ((c.p 5).text 5))) ∧ Ext W W') := fun W hW =>
  text_part 5 (by omega) (c.p 5) ((cron_ok HO.out HRI.out.all).part 5 (by omega)) W ((HI.out 5 (by omega)).ext hW) (hE.ext hW)
 have hj : joinL 32 (c.parts 6) = joinL 32 (c.parts 5) ++ 32 :: (c.p 5).text 5 := by rw [parts_join c 5, if_pos (by omega)]
 obtain ⟨A, hA⟩ : ∃ A, A = joinL 32 (c.parts 5) := ⟨_, rfl⟩
 obtain ⟨T, hT⟩ : ∃ T, T = (c.p 5).text 5 := ⟨_, rfl⟩
 have hTl : T.length ≤ 430 := by rw [hT]; exact part_len ((cron_ok HO.out HRI.out.all).part 5 (by omega))
 have hAl : A.length ≤ 120 := by
  have h1 := HRI.out.len
  have h2 : c.text = if c.six then joinL 32 (c.parts 6) else joinL 32 (c.parts 7) := by rw [text_eq]; unfold CronV.last; split <;> rfl
  have h3 : A.length ≤ (joinL 32 (c.parts 6)).length := by rw [hj, ← hA]; simp
  have h4 : (joinL 32 (c.parts 6)).length ≤ (joinL 32 (c.parts 7)).length := by rw [parts_join c 6, if_pos (by omega)]; simp
  rw [h2] at h1
  split at h1 <;> omega
 rw [hj, ← hA, ← hT]
 rw [← hT] at HP
 rw [← hA] at HW2
 have s0 : (mk (A ++ 32 :: T)).size = A.length + (T.length + 1) := by rw [size_mk]; simp
 have s1 : (mk T).size = T.length := size_mk T
 have HEX : Hid ((mk (A ++ 32 :: T)).extract 0 A.length = mk A) := by
  show _ = _
  refine mk_eq _ _ ?_
  rw [bytes_extract, bytes_mk]
  simp
 clear hj hA hT
 generalize mk (A ++ 32 :: T) = S at *
 generalize mk T = TT at *
 generalize A.length = la at *
 generalize T.length = lt at *
 obtain ⟨n0, hn0⟩ : ∃ n0, n0 = la + (lt + 1) := ⟨_, rfl⟩
 rw [← hn0] at s0
 have hq : n0 - lt - 1 = la := by omega
 rw [← hq] at HEX
 have hn1 : lt + 1 ≤ n0 := by omega
 have hn2 : n0 ≤ 600 := by omega
 clear hq hn0 hAl
 go_wp2_with fail
 go_at_call 37
 refine (HP.out _ X3.out).mono ?_
 rintro e w4 ⟨rfl, x4⟩
 have X4 := Lib.hid (X3.out.trans x4)
 clear x4 d0 d1 d2 d3 d4 d5
 go_wp2_with fail
 go_ret2
 exact ⟨.inl ⟨_, HW2.out, by rw [← HEX.out]; rfl⟩, X4.out⟩
set_option maxHeartbeats 6400000 in
set_option maxRecDepth 1000000 in
theorem wrong1 (c : CronV) (hO : CronIn c) (F : Nat) (hF : F < 6) (hr : c.rightB = true) (w : World) (hI : CronItems w c) (hE : Env w) :
 Calls Tryz.prog 33 #[.agg c.cells, .int .i64 F, .int .i64 1] w (WrongPost w (wrongO c F 1)) := by
 have HC : Hid (CronAt (w.alloc (.cells c.cells 27)) w.heap.size c) := cron_alloc w c
 have HX : Hid (Ext w (w.alloc (.cells c.cells 27))) := Ext.alloc _ _
 have hcw := HC.out.whole
 have HI := Lib.hid hI
 have HO := Lib.hid hO
 have HRB := Lib.hid hr
 have HRI := Lib.hid (right_is hr)
 have HW := Lib.hid (wrong_go (how := 1) hr hF)
 generalize hR : wrongO c F 1 = R at *
 unfold WrongPost
 have h0F : ¬ ((F : Int) < 0) := by omega
 have h5F : ¬ ((5 : Int) < F) := by omega
 clear hR hI hO
 go_enter Tryz.func33, Tryz.ntmps33
 go_wp2_with fail
 go_at_call 13
 refine (right_cron c HO.out _ (HI.out.ext HX.out) (hE.ext HX.out)).mono ?_
 rintro e w1 ⟨rfl, x1⟩
 rw [HRB.out]
 have C1 := Lib.hid (HC.out.ext x1)
 have X1 := Lib.hid (HX.out.trans x1)
 clear x1 hcw hr
 have HW2 : Hid (R = some (joinL 32 (c.parts 7) ++ [32, 42])) := by show _ = _; rw [HW.out]; rfl
 have hfz : w1.frozen? ⟨w.heap.size, 42, none⟩ = false := frozen_of_row w1 w.heap.size 42 _ 27 C1.out.blk
 have c42 := C1.out.six
 obtain ⟨W2, hW2⟩ : ∃ W2, W2 = w1.setCell ⟨w.heap.size, 42, none⟩ (.bool false) := ⟨_, rfl⟩
 have C2 : Hid (CronAt W2 w.heap.size ⟨c.p, false⟩) := by show CronAt _ _ _; rw [hW2]; exact C1.out.set_six false
 have X2 : Hid (Ext w W2) := by show Ext _ _; rw [hW2]; exact X1.out.set (Nat.le_refl _) 42 _
 have hcw := C2.out.whole
 rw [hW2] at hcw
 have HT : Hid (∀ W, Ext w W → Calls Tryz.prog 14 #[.agg (CronV.mk c.p false).cells] W fun e W' => e = .returned (.string (mk (joinL 32 (c.parts 7)))) ∧ Ext W W') := fun W hW =>
  text_cron ⟨c.p, false⟩ ⟨(cron_ok HO.out HRI.out.all).part⟩ W (HI.out.ext hW) (hE.ext hW)
 go_wp2_with fail
 go_at_call 14
 refine (HT.out _ (by first | exact X2.out | (rw [← hW2]; exact X2.out))).mono ?_
 rintro e w3 ⟨rfl, x3⟩
 rw [← hW2] at x3
 have X3 := Lib.hid (X2.out.trans x3)
 have sz : (mk (joinL 32 (c.parts 7))).size ≤ 4096 := by
  rw [size_mk]
  have h := joinL_bd (cron_ok HO.out HRI.out.all) 7 (by omega)
  omega
 obtain ⟨A, hA⟩ : ∃ A, A = joinL 32 (c.parts 7) := ⟨_, rfl⟩
 rw [← hA] at sz HW2
 rw [← hA]
 clear hcw hfz c42 hW2 x3 HC C1 HX hA
 go_wp2_with fail
 go_ret2
 exact ⟨.inl ⟨_, HW2.out, by rw [← mk_append]; rfl⟩, X3.out⟩
set_option maxHeartbeats 6400000 in
set_option maxRecDepth 1000000 in
theorem wrong2 (c : CronV) (hO : CronIn c) (F : Nat) (hF : F < 6) (hr : c.rightB = true) (w : World) (hI : CronItems w c) (hE : Env w) :
 Calls Tryz.prog 33 #[.agg c.cells, .int .i64 F, .int .i64 2] w (WrongPost w (wrongO c F 2)) := by
 have HC : Hid (CronAt (w.alloc (.cells c.cells 27)) w.heap.size c) := cron_alloc w c
 have HX : Hid (Ext w (w.alloc (.cells c.cells 27))) := Ext.alloc _ _
 have hcw := HC.out.whole
 have HI := Lib.hid hI
 have HO := Lib.hid hO
 have HRB := Lib.hid hr
 have HRI := Lib.hid (right_is hr)
 have HW := Lib.hid (wrong_go (how := 2) hr hF)
 generalize hR : wrongO c F 2 = R at *
 unfold WrongPost
 have h0F : ¬ ((F : Int) < 0) := by omega
 have h5F : ¬ ((5 : Int) < F) := by omega
 clear hR hI hO
 go_enter Tryz.func33, Tryz.ntmps33
 go_wp2_with fail
 go_at_call 13
 refine (right_cron c HO.out _ (HI.out.ext HX.out) (hE.ext HX.out)).mono ?_
 rintro e w1 ⟨rfl, x1⟩
 rw [HRB.out]
 have C1 := Lib.hid (HC.out.ext x1)
 have X1 := Lib.hid (HX.out.trans x1)
 clear x1 hcw hr
 have HW2 : Hid (R = some c.both.text) := by show _ = _; rw [HW.out]; rfl
 obtain ⟨WA, hWA⟩ : ∃ WA, WA = w1.setCells w.heap.size 18 [.int .i64 2, .int .i64 1, .int .i64 0, .int .i64 0, .int .i64 0, .slice none 0 0] := ⟨_, rfl⟩
 obtain ⟨W2, hW2⟩ : ∃ W2, W2 = WA.setCells w.heap.size 30 [.int .i64 2, .int .i64 2, .int .i64 0, .int .i64 0, .int .i64 0, .slice none 0 0] := ⟨_, rfl⟩
 obtain ⟨s1, CA, XA⟩ := store_part C1.out 3 18 (by omega) ⟨2, 1, 0, 0, 0, none, 0, []⟩ (set_cells3 _ _) hWA X1.out (Nat.le_refl _)
 obtain ⟨s2, CB, XB⟩ := store_part CA 5 30 (by omega) ⟨2, 2, 0, 0, 0, none, 0, []⟩ (set_cells5 _ _) hW2 XA (Nat.le_refl _)
 have C2 : Hid (CronAt W2 w.heap.size c.both) := by
  have e : (c.setP 3 ⟨2, 1, 0, 0, 0, none, 0, []⟩).setP 5 ⟨2, 2, 0, 0, 0, none, 0, []⟩ = c.both := set_both c
  rw [← e]; exact CB
 have X2 : Hid (Ext w W2) := XB
 have hcw := C2.out.whole
 have t1 : (storePart (.pointer (some ⟨w.heap.size, 18, none⟩)) (.agg #[.int .i64 2, .int .i64 1, .int .i64 0, .int .i64 0, .int .i64 0, .slice none 0 0])).run Tryz.prog w1 = .ok .skip WA := s1
 have t2 : (storePart (.pointer (some ⟨w.heap.size, 30, none⟩)) (.agg #[.int .i64 2, .int .i64 2, .int .i64 0, .int .i64 0, .int .i64 0, .slice none 0 0])).run Tryz.prog WA = .ok .skip W2 := s2
 clear CA XA CB XB hWA hW2 s1 s2
 have HT : Hid (∀ W, Ext w W → Calls Tryz.prog 14 #[.agg c.both.cells] W fun e W' => e = .returned (.string (mk c.both.text)) ∧ Ext W W') := fun W hW =>
  text_cron c.both (both_ok (cron_ok HO.out HRI.out.all)) W (both_items (HI.out.ext hW)) (hE.ext hW)
 go_wp2_with fail
 go_at_call 14
 refine (HT.out _ X2.out).mono ?_
 rintro e w3 ⟨rfl, x3⟩
 have X3 := Lib.hid (X2.out.trans x3)
 clear hcw t1 t2 x3 HC C1 HX
 go_wp2_with fail
 go_ret2
 exact ⟨.inl ⟨_, HW2.out, rfl⟩, X3.out⟩
set_option maxHeartbeats 6400000 in
set_option maxRecDepth 1000000 in
theorem wrong6 (c : CronV) (hO : CronIn c) (F : Nat) (hF : F < 6) (hr : c.rightB = true) (w : World) (hI : CronItems w c) (hE : Env w) :
 Calls Tryz.prog 33 #[.agg c.cells, .int .i64 F, .int .i64 6] w (WrongPost w (wrongO c F 6)) := by
 have HC : Hid (CronAt (w.alloc (.cells c.cells 27)) w.heap.size c) := cron_alloc w c
 have HX : Hid (Ext w (w.alloc (.cells c.cells 27))) := Ext.alloc _ _
 have hcw := HC.out.whole
 have HI := Lib.hid hI
 have HO := Lib.hid hO
 have HRB := Lib.hid hr
 have HRI := Lib.hid (right_is hr)
 have HW := Lib.hid (wrong_go (how := 6) hr hF)
 generalize hR : wrongO c F 6 = R at *
 unfold WrongPost
 have h0F : ¬ ((F : Int) < 0) := by omega
 have h5F : ¬ ((5 : Int) < F) := by omega
 clear hR hI hO
 go_enter Tryz.func33, Tryz.ntmps33
 go_wp2_with fail
 go_at_call 13
 refine (right_cron c HO.out _ (HI.out.ext HX.out) (hE.ext HX.out)).mono ?_
 rintro e w1 ⟨rfl, x1⟩
 rw [HRB.out]
 have C1 := Lib.hid (HC.out.ext x1)
 have X1 := Lib.hid (HX.out.trans x1)
 clear x1 hcw hr
 obtain ⟨PL, hPL⟩ : ∃ PL : List UInt8, PL = [42, 47, 48] := ⟨_, rfl⟩
 have HPL := Lib.hid hPL
 have HW2 : Hid (R = some (joinL 32 (c.bents F PL c.last))) := by
  show _ = _
  rw [HW.out, hPL]
  rfl
 have HPS : Hid (PL.length ≤ 5) := by
  show _ ≤ _
  rw [hPL]
  decide
 clear hPL HW
 have HOK : Hid (CronOk c) := cron_ok HO.out HRI.out.all
 have HQB : Hid ((mk [42, 47, 48]) = mk PL) := by
  show _ = _
  rw [HPL.out]
 have hqbs : ((mk [42, 47, 48])).size ≤ 5 := by rw [HQB.out, size_mk]; exact HPS.out
 obtain ⟨L, hL⟩ : ∃ L, L = c.last := ⟨_, rfl⟩
 have hL7 : L ≤ 7 := by rw [hL]; exact (last_le c).1
 obtain ⟨six, hsix⟩ : ∃ six, six = c.six := ⟨_, rfl⟩
 have HLS : Hid (L = if six then 6 else 7) := by show _ = _; rw [hL, hsix]; rfl
 have H42 : Hid (w1.cell? ⟨w.heap.size, 42, none⟩ = some (.bool six)) := by rw [hsix]; exact C1.out.six
 rw [← hL] at HW2
 clear hL hsix
 go_wp2_with fail
 go_loopw [10, 11] (fun o i wr => ∃ (k : Nat) (O : ByteArray), k ≤ L ∧ i = .int .i64 k ∧ o = .string O ∧ Hid (O = mk (joinL 32 (c.bents F PL k))) ∧ O.size ≤ k * 431 ∧ Hid (Ext w1 wr))
  (fun _ i _ => 7 - (RowKit.intOf i).toNat)
 case atStart => exact ⟨0, ⟨#[]⟩, Nat.zero_le _, rfl, rfl, rfl, Nat.zero_le _, Ext.refl _⟩
 case round =>
  obtain ⟨k, O, hk, rfl, rfl, HO2, hsz, Hx⟩ := hrel
  have c42 : wr.cell? ⟨w.heap.size, 42, none⟩ = some (.bool six) := Hx.out.cell H42.out
  by_cases hlt : k < L
  ·have h7 : k < 7 := by omega
   have h6 : k = 6 → six = false := by
    intro e
    have hl := HLS.out
    cases six
    ·rfl
    ·rw [if_pos rfl] at hl; omega
   have HJ : Hid (joinL 32 (c.bents F PL (k + 1)) = if 0 < k then joinL 32 (c.bents F PL k) ++ 32 :: c.bent F PL k else c.bent F PL k) := bents_join c F PL k
   by_cases hkF : k = F
   ·have HB : Hid (c.bent F PL k = PL) := by show _ = _; unfold CronV.bent; rw [if_pos hkF]
    have eF : ((k : Int) == (F : Int)) = true := by simp; omega
    have e6 : ((k : Int) == 6) = false := by rw [beq_eq_false_iff_ne]; omega
    clear h6
    by_cases h0 : 0 < k
    ·have Hn : Hid (O ++ mk [32] ++ (mk [42, 47, 48]) = mk (joinL 32 (c.bents F PL (k + 1)))) := by
      show _ = _
      rw [HJ.out, if_pos h0, HO2.out, HB.out, HQB.out, mk_append, mk_append]
      simp
     have hsn : (O ++ mk [32] ++ (mk [42, 47, 48])).size ≤ (k + 1) * 431 := by
      have e : (O ++ mk [32] ++ (mk [42, 47, 48])).size = O.size + 1 + (mk [42, 47, 48]).size := by rw [ByteArray.size_append, ByteArray.size_append]; rfl
      rw [e]; omega
     clear hkF
     go_wp2_with fail
     go_roundw
     case rel => exact ⟨k + 1, _, by omega, by go_num, rfl, Hn, hsn, Hx⟩
     case measure => simp [RowKit.intOf] <;> omega
    ·have hk0 : k = 0 := by omega
     have Hn : Hid (O ++ (mk [42, 47, 48]) = mk (joinL 32 (c.bents F PL (k + 1)))) := by
      show _ = _
      rw [HJ.out, if_neg h0, HO2.out, HB.out, HQB.out, mk_append, hk0]
      rfl
     have hsn : (O ++ (mk [42, 47, 48])).size ≤ (k + 1) * 431 := by rw [ByteArray.size_append]; omega
     clear hkF
     subst hk0
     go_wp2_with fail
     go_roundw
     case rel => exact ⟨1, _, by omega, by go_num, rfl, Hn, hsn, Hx⟩
     case measure => simp [RowKit.intOf] <;> omega
   ·have eF : ((k : Int) == (F : Int)) = false := by rw [beq_eq_false_iff_ne]; omega
    by_cases hd : (k = 3 ∧ F = 5) ∨ (k = 5 ∧ F = 3)
    ·have HB : Hid (c.bent F PL k = [63]) := by show _ = _; unfold CronV.bent; rw [if_neg hkF, if_pos hd]
     have e6 : ((k : Int) == 6) = false := by rw [beq_eq_false_iff_ne]; omega
     have h0 : 0 < k := by omega
     have Hn : Hid (O ++ mk [32] ++ mk [63] = mk (joinL 32 (c.bents F PL (k + 1)))) := by
      show _ = _
      rw [HJ.out, if_pos h0, HO2.out, HB.out, mk_append, mk_append]
      simp
     have hsn : (O ++ mk [32] ++ mk [63]).size ≤ (k + 1) * 431 := by
      have e : (O ++ mk [32] ++ mk [63]).size = O.size + 1 + 1 := by rw [ByteArray.size_append, ByteArray.size_append]; rfl
      rw [e]; omega
     clear h6
     rcases hd with ⟨hk, hq⟩ | ⟨hk, hq⟩
     ·have e3 : ((k : Int) == 3) = true := by simp; omega
      have f5 : ((F : Int) == 5) = true := by simp; omega
      clear hk hq
      go_wp2_with fail
      go_roundw
      case rel => exact ⟨k + 1, _, by omega, by go_num, rfl, Hn, hsn, Hx⟩
      case measure => simp [RowKit.intOf] <;> omega
     ·have e3 : ((k : Int) == 3) = false := by rw [beq_eq_false_iff_ne]; omega
      have e5 : ((k : Int) == 5) = true := by simp; omega
      have f3 : ((F : Int) == 3) = true := by simp; omega
      clear hk hq
      go_wp2_with fail
      go_roundw
      case rel => exact ⟨k + 1, _, by omega, by go_num, rfl, Hn, hsn, Hx⟩
      case measure => simp [RowKit.intOf] <;> omega
    ·have HB : Hid (c.bent F PL k = (c.p k).text k) := by show _ = _; unfold CronV.bent; rw [if_neg hkF, if_neg hd]
     have CA := C1.out.ext Hx.out
     have d0 := CA.k k h7
     have d1 := CA.a k h7
     have d2 := CA.b k h7
     have d3 := CA.s k h7
     have d4 := CA.n k h7
     have d5 := CA.it k h7
     obtain ⟨tx, htx⟩ : ∃ tx, tx = mk ((c.p k).text k) := ⟨_, rfl⟩
     have sx : tx.size ≤ 430 := by rw [htx, size_mk]; exact part_len (HOK.out.part k h7)
     have HCX : Hid (∀ W, Ext w W → Calls Tryz.prog 37 #[.int .i64 k, .agg #[.int .i64 (c.p k).k, .int .i64 (c.p k).a, .int .i64 (c.p k).b, .int .i64 (c.p k).s, .int .i64 (c.p k).n, .slice (c.p k).ia (c.p k).items.length (c.p k).cap]] W fun e w' => e = .returned (.string tx) ∧ Ext W w') := fun W hW => by
      rw [htx]; exact text_part k h7 (c.p k) (HOK.out.part k h7) W ((HI.out k h7).ext hW) (hE.ext hW)
     have HTX := Lib.hid htx
     have HXX : Hid (Ext w wr) := X1.out.trans Hx.out
     generalize c.p k = pk at d0 d1 d2 d3 d4 d5 HCX HTX HB
     clear htx CA
     obtain ⟨q0, q1, q2, q3, q4, q5, q6, q7⟩ := pk
     obtain ⟨L8, hL8⟩ : ∃ L8, L8 = q7.length := ⟨_, rfl⟩
     simp only at d0 d1 d2 d3 d4 d5 HCX
     rw [← hL8] at d5 HCX
     clear hL8
     have Hn0 : Hid (¬ 0 < k → O ++ tx = mk (joinL 32 (c.bents F PL (k + 1)))) := by
      intro h0
      have hk0 : k = 0 := by omega
      rw [HJ.out, if_neg h0, HO2.out, HB.out, HTX.out, mk_append, hk0]
      rfl
     have Hn1 : Hid (0 < k → O ++ mk [32] ++ tx = mk (joinL 32 (c.bents F PL (k + 1)))) := by
      intro h0
      rw [HJ.out, if_pos h0, HO2.out, HB.out, HTX.out, mk_append, mk_append]
      simp
     have hs0 : (O ++ tx).size ≤ (k + 1) * 431 := by rw [ByteArray.size_append]; omega
     have hs1 : (O ++ mk [32] ++ tx).size ≤ (k + 1) * 431 := by
      have e : (O ++ mk [32] ++ tx).size = O.size + 1 + tx.size := by rw [ByteArray.size_append, ByteArray.size_append]; rfl
      rw [e]; omega
     have Hs0 := Lib.hid hs0
     have Hs1 := Lib.hid hs1
     clear hs0 hs1
     by_cases hk : k = 3
     ·have h0 : 0 < k := by omega
      have e3 : ((k : Int) == 3) = true := by simp; omega
      have f5 : ((F : Int) == 5) = false := by rw [beq_eq_false_iff_ne]; omega
      have e5 : ((k : Int) == 5) = false := by rw [beq_eq_false_iff_ne]; omega
      have e6 : ((k : Int) == 6) = false := by rw [beq_eq_false_iff_ne]; omega
      have Hn := Lib.hid (Hn1.out h0)
      clear Hn0 Hn1 h6
      clear hk
      go_wp2_with fail
      go_at_call 37
      refine (HCX.out _ HXX.out).mono ?_
      rintro e w4 ⟨rfl, x4⟩
      have X4 := Lib.hid (Hx.out.trans x4)
      clear x4
      go_wp2_with fail
      go_roundw
      case rel => exact ⟨k + 1, _, by omega, by go_num, rfl, Hn, Hs1.out, X4⟩
      case measure => simp [RowKit.intOf] <;> omega
     ·by_cases hk3 : k = 5
      ·have hk := hk3
       clear hk3
       have h0 : 0 < k := by omega
       have e3 : ((k : Int) == 3) = false := by rw [beq_eq_false_iff_ne]; omega
       have e5 : ((k : Int) == 5) = true := by simp; omega
       have f3 : ((F : Int) == 3) = false := by rw [beq_eq_false_iff_ne]; omega
       have e6 : ((k : Int) == 6) = false := by rw [beq_eq_false_iff_ne]; omega
       have Hn := Lib.hid (Hn1.out h0)
       clear Hn0 Hn1 h6
       clear hk
       go_wp2_with fail
       go_at_call 37
       refine (HCX.out _ HXX.out).mono ?_
       rintro e w4 ⟨rfl, x4⟩
       have X4 := Lib.hid (Hx.out.trans x4)
       clear x4
       go_wp2_with fail
       go_roundw
       case rel => exact ⟨k + 1, _, by omega, by go_num, rfl, Hn, Hs1.out, X4⟩
       case measure => simp [RowKit.intOf] <;> omega
      ·by_cases hk6 : k = 6
       ·have hk := hk6
        clear hk6
        have h0 : 0 < k := by omega
        have e3 : ((k : Int) == 3) = false := by rw [beq_eq_false_iff_ne]; omega
        have e5 : ((k : Int) == 5) = false := by rw [beq_eq_false_iff_ne]; omega
        have e6 : ((k : Int) == 6) = true := by simp; omega
        have hs := h6 hk
        subst hs
        have Hn := Lib.hid (Hn1.out h0)
        clear Hn0 Hn1 h6
        clear hk
        go_wp2_with fail
        go_at_call 37
        refine (HCX.out _ HXX.out).mono ?_
        rintro e w4 ⟨rfl, x4⟩
        have X4 := Lib.hid (Hx.out.trans x4)
        clear x4
        go_wp2_with fail
        go_roundw
        case rel => exact ⟨k + 1, _, by omega, by go_num, rfl, Hn, Hs1.out, X4⟩
        case measure => simp [RowKit.intOf] <;> omega
       ·by_cases hk0 : k = 0
        ·have hk := hk0
         clear hk0
         have h0 : ¬ 0 < k := by omega
         have e3 : ((k : Int) == 3) = false := by rw [beq_eq_false_iff_ne]; omega
         have e5 : ((k : Int) == 5) = false := by rw [beq_eq_false_iff_ne]; omega
         have e6 : ((k : Int) == 6) = false := by rw [beq_eq_false_iff_ne]; omega
         have Hn := Lib.hid (Hn0.out h0)
         clear Hn0 Hn1 h6
         clear hk
         go_wp2_with fail
         go_at_call 37
         refine (HCX.out _ HXX.out).mono ?_
         rintro e w4 ⟨rfl, x4⟩
         have X4 := Lib.hid (Hx.out.trans x4)
         clear x4
         go_wp2_with fail
         go_roundw
         case rel => exact ⟨k + 1, _, by omega, by go_num, rfl, Hn, Hs0.out, X4⟩
         case measure => simp [RowKit.intOf] <;> omega
        ·have h0 : 0 < k := by omega
         have e3 : ((k : Int) == 3) = false := by rw [beq_eq_false_iff_ne]; omega
         have e5 : ((k : Int) == 5) = false := by rw [beq_eq_false_iff_ne]; omega
         have e6 : ((k : Int) == 6) = false := by rw [beq_eq_false_iff_ne]; omega
         have Hn := Lib.hid (Hn1.out h0)
         clear Hn0 Hn1 h6
         clear hk
         go_wp2_with fail
         go_at_call 37
         refine (HCX.out _ HXX.out).mono ?_
         rintro e w4 ⟨rfl, x4⟩
         have X4 := Lib.hid (Hx.out.trans x4)
         clear x4
         go_wp2_with fail
         go_roundw
         case rel => exact ⟨k + 1, _, by omega, by go_num, rfl, Hn, Hs1.out, X4⟩
         case measure => simp [RowKit.intOf] <;> omega
  ·have Hk : Hid (k = L) := by show _ = _; omega
   have e6 : k = 6 → six = true := by
    intro e
    have hl := HLS.out
    rcases six with _ | _
    ·rw [if_neg (by decide)] at hl; omega
    ·rfl
   have hL67 : L = 6 ∨ L = 7 := by have hl := HLS.out; split at hl <;> omega
   have HE6 := Lib.hid e6
   clear e6
   have hkk : k = 6 ∨ k = 7 := by have := Hk.out; omega
   rcases hkk with rfl | rfl
   ·have hs := HE6.out rfl
    subst hs
    go_wp2_with fail
    go_ret2
    exact ⟨.inl ⟨_, HW2.out, by rw [← Hk.out, ← HO2.out]; rfl⟩, X1.out.trans Hx.out⟩
   ·go_wp2_with fail
    go_ret2
    exact ⟨.inl ⟨_, HW2.out, by rw [← Hk.out, ← HO2.out]; rfl⟩, X1.out.trans Hx.out⟩
set_option maxHeartbeats 6400000 in
set_option maxRecDepth 1000000 in
theorem wrong8 (c : CronV) (hO : CronIn c) (F : Nat) (hF : F < 6) (hr : c.rightB = true) (w : World) (hI : CronItems w c) (hE : Env w) :
 Calls Tryz.prog 33 #[.agg c.cells, .int .i64 F, .int .i64 8] w (WrongPost w (wrongO c F 8)) := by
 have HC : Hid (CronAt (w.alloc (.cells c.cells 27)) w.heap.size c) := cron_alloc w c
 have HX : Hid (Ext w (w.alloc (.cells c.cells 27))) := Ext.alloc _ _
 have hcw := HC.out.whole
 have HI := Lib.hid hI
 have HO := Lib.hid hO
 have HRB := Lib.hid hr
 have HRI := Lib.hid (right_is hr)
 have HW := Lib.hid (wrong_go (how := 8) hr hF)
 generalize hR : wrongO c F 8 = R at *
 unfold WrongPost
 have h0F : ¬ ((F : Int) < 0) := by omega
 have h5F : ¬ ((5 : Int) < F) := by omega
 clear hR hI hO
 go_enter Tryz.func33, Tryz.ntmps33
 go_wp2_with fail
 go_at_call 13
 refine (right_cron c HO.out _ (HI.out.ext HX.out) (hE.ext HX.out)).mono ?_
 rintro e w1 ⟨rfl, x1⟩
 rw [HRB.out]
 have C1 := Lib.hid (HC.out.ext x1)
 have X1 := Lib.hid (HX.out.trans x1)
 clear x1 hcw hr
 obtain ⟨PL, hPL⟩ : ∃ PL : List UInt8, PL = [70, 79, 79] := ⟨_, rfl⟩
 have HPL := Lib.hid hPL
 have HW2 : Hid (R = some (joinL 32 (c.bents F PL c.last))) := by
  show _ = _
  rw [HW.out, hPL]
  rfl
 have HPS : Hid (PL.length ≤ 5) := by
  show _ ≤ _
  rw [hPL]
  decide
 clear hPL HW
 have HOK : Hid (CronOk c) := cron_ok HO.out HRI.out.all
 have HQB : Hid ((mk [70, 79, 79]) = mk PL) := by
  show _ = _
  rw [HPL.out]
 have hqbs : ((mk [70, 79, 79])).size ≤ 5 := by rw [HQB.out, size_mk]; exact HPS.out
 obtain ⟨L, hL⟩ : ∃ L, L = c.last := ⟨_, rfl⟩
 have hL7 : L ≤ 7 := by rw [hL]; exact (last_le c).1
 obtain ⟨six, hsix⟩ : ∃ six, six = c.six := ⟨_, rfl⟩
 have HLS : Hid (L = if six then 6 else 7) := by show _ = _; rw [hL, hsix]; rfl
 have H42 : Hid (w1.cell? ⟨w.heap.size, 42, none⟩ = some (.bool six)) := by rw [hsix]; exact C1.out.six
 rw [← hL] at HW2
 clear hL hsix
 go_wp2_with fail
 go_loopw [10, 11] (fun o i wr => ∃ (k : Nat) (O : ByteArray), k ≤ L ∧ i = .int .i64 k ∧ o = .string O ∧ Hid (O = mk (joinL 32 (c.bents F PL k))) ∧ O.size ≤ k * 431 ∧ Hid (Ext w1 wr))
  (fun _ i _ => 7 - (RowKit.intOf i).toNat)
 case atStart => exact ⟨0, ⟨#[]⟩, Nat.zero_le _, rfl, rfl, rfl, Nat.zero_le _, Ext.refl _⟩
 case round =>
  obtain ⟨k, O, hk, rfl, rfl, HO2, hsz, Hx⟩ := hrel
  have c42 : wr.cell? ⟨w.heap.size, 42, none⟩ = some (.bool six) := Hx.out.cell H42.out
  by_cases hlt : k < L
  ·have h7 : k < 7 := by omega
   have h6 : k = 6 → six = false := by
    intro e
    have hl := HLS.out
    cases six
    ·rfl
    ·rw [if_pos rfl] at hl; omega
   have HJ : Hid (joinL 32 (c.bents F PL (k + 1)) = if 0 < k then joinL 32 (c.bents F PL k) ++ 32 :: c.bent F PL k else c.bent F PL k) := bents_join c F PL k
   by_cases hkF : k = F
   ·have HB : Hid (c.bent F PL k = PL) := by show _ = _; unfold CronV.bent; rw [if_pos hkF]
    have eF : ((k : Int) == (F : Int)) = true := by simp; omega
    have e6 : ((k : Int) == 6) = false := by rw [beq_eq_false_iff_ne]; omega
    clear h6
    by_cases h0 : 0 < k
    ·have Hn : Hid (O ++ mk [32] ++ (mk [70, 79, 79]) = mk (joinL 32 (c.bents F PL (k + 1)))) := by
      show _ = _
      rw [HJ.out, if_pos h0, HO2.out, HB.out, HQB.out, mk_append, mk_append]
      simp
     have hsn : (O ++ mk [32] ++ (mk [70, 79, 79])).size ≤ (k + 1) * 431 := by
      have e : (O ++ mk [32] ++ (mk [70, 79, 79])).size = O.size + 1 + (mk [70, 79, 79]).size := by rw [ByteArray.size_append, ByteArray.size_append]; rfl
      rw [e]; omega
     clear hkF
     go_wp2_with fail
     go_roundw
     case rel => exact ⟨k + 1, _, by omega, by go_num, rfl, Hn, hsn, Hx⟩
     case measure => simp [RowKit.intOf] <;> omega
    ·have hk0 : k = 0 := by omega
     have Hn : Hid (O ++ (mk [70, 79, 79]) = mk (joinL 32 (c.bents F PL (k + 1)))) := by
      show _ = _
      rw [HJ.out, if_neg h0, HO2.out, HB.out, HQB.out, mk_append, hk0]
      rfl
     have hsn : (O ++ (mk [70, 79, 79])).size ≤ (k + 1) * 431 := by rw [ByteArray.size_append]; omega
     clear hkF
     subst hk0
     go_wp2_with fail
     go_roundw
     case rel => exact ⟨1, _, by omega, by go_num, rfl, Hn, hsn, Hx⟩
     case measure => simp [RowKit.intOf] <;> omega
   ·have eF : ((k : Int) == (F : Int)) = false := by rw [beq_eq_false_iff_ne]; omega
    by_cases hd : (k = 3 ∧ F = 5) ∨ (k = 5 ∧ F = 3)
    ·have HB : Hid (c.bent F PL k = [63]) := by show _ = _; unfold CronV.bent; rw [if_neg hkF, if_pos hd]
     have e6 : ((k : Int) == 6) = false := by rw [beq_eq_false_iff_ne]; omega
     have h0 : 0 < k := by omega
     have Hn : Hid (O ++ mk [32] ++ mk [63] = mk (joinL 32 (c.bents F PL (k + 1)))) := by
      show _ = _
      rw [HJ.out, if_pos h0, HO2.out, HB.out, mk_append, mk_append]
      simp
     have hsn : (O ++ mk [32] ++ mk [63]).size ≤ (k + 1) * 431 := by
      have e : (O ++ mk [32] ++ mk [63]).size = O.size + 1 + 1 := by rw [ByteArray.size_append, ByteArray.size_append]; rfl
      rw [e]; omega
     clear h6
     rcases hd with ⟨hk, hq⟩ | ⟨hk, hq⟩
     ·have e3 : ((k : Int) == 3) = true := by simp; omega
      have f5 : ((F : Int) == 5) = true := by simp; omega
      clear hk hq
      go_wp2_with fail
      go_roundw
      case rel => exact ⟨k + 1, _, by omega, by go_num, rfl, Hn, hsn, Hx⟩
      case measure => simp [RowKit.intOf] <;> omega
     ·have e3 : ((k : Int) == 3) = false := by rw [beq_eq_false_iff_ne]; omega
      have e5 : ((k : Int) == 5) = true := by simp; omega
      have f3 : ((F : Int) == 3) = true := by simp; omega
      clear hk hq
      go_wp2_with fail
      go_roundw
      case rel => exact ⟨k + 1, _, by omega, by go_num, rfl, Hn, hsn, Hx⟩
      case measure => simp [RowKit.intOf] <;> omega
    ·have HB : Hid (c.bent F PL k = (c.p k).text k) := by show _ = _; unfold CronV.bent; rw [if_neg hkF, if_neg hd]
     have CA := C1.out.ext Hx.out
     have d0 := CA.k k h7
     have d1 := CA.a k h7
     have d2 := CA.b k h7
     have d3 := CA.s k h7
     have d4 := CA.n k h7
     have d5 := CA.it k h7
     obtain ⟨tx, htx⟩ : ∃ tx, tx = mk ((c.p k).text k) := ⟨_, rfl⟩
     have sx : tx.size ≤ 430 := by rw [htx, size_mk]; exact part_len (HOK.out.part k h7)
     have HCX : Hid (∀ W, Ext w W → Calls Tryz.prog 37 #[.int .i64 k, .agg #[.int .i64 (c.p k).k, .int .i64 (c.p k).a, .int .i64 (c.p k).b, .int .i64 (c.p k).s, .int .i64 (c.p k).n, .slice (c.p k).ia (c.p k).items.length (c.p k).cap]] W fun e w' => e = .returned (.string tx) ∧ Ext W w') := fun W hW => by
      rw [htx]; exact text_part k h7 (c.p k) (HOK.out.part k h7) W ((HI.out k h7).ext hW) (hE.ext hW)
     have HTX := Lib.hid htx
     have HXX : Hid (Ext w wr) := X1.out.trans Hx.out
     generalize c.p k = pk at d0 d1 d2 d3 d4 d5 HCX HTX HB
     clear htx CA
     obtain ⟨q0, q1, q2, q3, q4, q5, q6, q7⟩ := pk
     obtain ⟨L8, hL8⟩ : ∃ L8, L8 = q7.length := ⟨_, rfl⟩
     simp only at d0 d1 d2 d3 d4 d5 HCX
     rw [← hL8] at d5 HCX
     clear hL8
     have Hn0 : Hid (¬ 0 < k → O ++ tx = mk (joinL 32 (c.bents F PL (k + 1)))) := by
      intro h0
      have hk0 : k = 0 := by omega
      rw [HJ.out, if_neg h0, HO2.out, HB.out, HTX.out, mk_append, hk0]
      rfl
     have Hn1 : Hid (0 < k → O ++ mk [32] ++ tx = mk (joinL 32 (c.bents F PL (k + 1)))) := by
      intro h0
      rw [HJ.out, if_pos h0, HO2.out, HB.out, HTX.out, mk_append, mk_append]
      simp
     have hs0 : (O ++ tx).size ≤ (k + 1) * 431 := by rw [ByteArray.size_append]; omega
     have hs1 : (O ++ mk [32] ++ tx).size ≤ (k + 1) * 431 := by
      have e : (O ++ mk [32] ++ tx).size = O.size + 1 + tx.size := by rw [ByteArray.size_append, ByteArray.size_append]; rfl
      rw [e]; omega
     have Hs0 := Lib.hid hs0
     have Hs1 := Lib.hid hs1
     clear hs0 hs1
     by_cases hk : k = 3
     ·have h0 : 0 < k := by omega
      have e3 : ((k : Int) == 3) = true := by simp; omega
      have f5 : ((F : Int) == 5) = false := by rw [beq_eq_false_iff_ne]; omega
      have e5 : ((k : Int) == 5) = false := by rw [beq_eq_false_iff_ne]; omega
      have e6 : ((k : Int) == 6) = false := by rw [beq_eq_false_iff_ne]; omega
      have Hn := Lib.hid (Hn1.out h0)
      clear Hn0 Hn1 h6
      clear hk
      go_wp2_with fail
      go_at_call 37
      refine (HCX.out _ HXX.out).mono ?_
      rintro e w4 ⟨rfl, x4⟩
      have X4 := Lib.hid (Hx.out.trans x4)
      clear x4
      go_wp2_with fail
      go_roundw
      case rel => exact ⟨k + 1, _, by omega, by go_num, rfl, Hn, Hs1.out, X4⟩
      case measure => simp [RowKit.intOf] <;> omega
     ·by_cases hk3 : k = 5
      ·have hk := hk3
       clear hk3
       have h0 : 0 < k := by omega
       have e3 : ((k : Int) == 3) = false := by rw [beq_eq_false_iff_ne]; omega
       have e5 : ((k : Int) == 5) = true := by simp; omega
       have f3 : ((F : Int) == 3) = false := by rw [beq_eq_false_iff_ne]; omega
       have e6 : ((k : Int) == 6) = false := by rw [beq_eq_false_iff_ne]; omega
       have Hn := Lib.hid (Hn1.out h0)
       clear Hn0 Hn1 h6
       clear hk
       go_wp2_with fail
       go_at_call 37
       refine (HCX.out _ HXX.out).mono ?_
       rintro e w4 ⟨rfl, x4⟩
       have X4 := Lib.hid (Hx.out.trans x4)
       clear x4
       go_wp2_with fail
       go_roundw
       case rel => exact ⟨k + 1, _, by omega, by go_num, rfl, Hn, Hs1.out, X4⟩
       case measure => simp [RowKit.intOf] <;> omega
      ·by_cases hk6 : k = 6
       ·have hk := hk6
        clear hk6
        have h0 : 0 < k := by omega
        have e3 : ((k : Int) == 3) = false := by rw [beq_eq_false_iff_ne]; omega
        have e5 : ((k : Int) == 5) = false := by rw [beq_eq_false_iff_ne]; omega
        have e6 : ((k : Int) == 6) = true := by simp; omega
        have hs := h6 hk
        subst hs
        have Hn := Lib.hid (Hn1.out h0)
        clear Hn0 Hn1 h6
        clear hk
        go_wp2_with fail
        go_at_call 37
        refine (HCX.out _ HXX.out).mono ?_
        rintro e w4 ⟨rfl, x4⟩
        have X4 := Lib.hid (Hx.out.trans x4)
        clear x4
        go_wp2_with fail
        go_roundw
        case rel => exact ⟨k + 1, _, by omega, by go_num, rfl, Hn, Hs1.out, X4⟩
        case measure => simp [RowKit.intOf] <;> omega
       ·by_cases hk0 : k = 0
        ·have hk := hk0
         clear hk0
         have h0 : ¬ 0 < k := by omega
         have e3 : ((k : Int) == 3) = false := by rw [beq_eq_false_iff_ne]; omega
         have e5 : ((k : Int) == 5) = false := by rw [beq_eq_false_iff_ne]; omega
         have e6 : ((k : Int) == 6) = false := by rw [beq_eq_false_iff_ne]; omega
         have Hn := Lib.hid (Hn0.out h0)
         clear Hn0 Hn1 h6
         clear hk
         go_wp2_with fail
         go_at_call 37
         refine (HCX.out _ HXX.out).mono ?_
         rintro e w4 ⟨rfl, x4⟩
         have X4 := Lib.hid (Hx.out.trans x4)
         clear x4
         go_wp2_with fail
         go_roundw
         case rel => exact ⟨k + 1, _, by omega, by go_num, rfl, Hn, Hs0.out, X4⟩
         case measure => simp [RowKit.intOf] <;> omega
        ·have h0 : 0 < k := by omega
         have e3 : ((k : Int) == 3) = false := by rw [beq_eq_false_iff_ne]; omega
         have e5 : ((k : Int) == 5) = false := by rw [beq_eq_false_iff_ne]; omega
         have e6 : ((k : Int) == 6) = false := by rw [beq_eq_false_iff_ne]; omega
         have Hn := Lib.hid (Hn1.out h0)
         clear Hn0 Hn1 h6
         clear hk
         go_wp2_with fail
         go_at_call 37
         refine (HCX.out _ HXX.out).mono ?_
         rintro e w4 ⟨rfl, x4⟩
         have X4 := Lib.hid (Hx.out.trans x4)
         clear x4
         go_wp2_with fail
         go_roundw
         case rel => exact ⟨k + 1, _, by omega, by go_num, rfl, Hn, Hs1.out, X4⟩
         case measure => simp [RowKit.intOf] <;> omega
  ·have Hk : Hid (k = L) := by show _ = _; omega
   have e6 : k = 6 → six = true := by
    intro e
    have hl := HLS.out
    rcases six with _ | _
    ·rw [if_neg (by decide)] at hl; omega
    ·rfl
   have hL67 : L = 6 ∨ L = 7 := by have hl := HLS.out; split at hl <;> omega
   have HE6 := Lib.hid e6
   clear e6
   have hkk : k = 6 ∨ k = 7 := by have := Hk.out; omega
   rcases hkk with rfl | rfl
   ·have hs := HE6.out rfl
    subst hs
    go_wp2_with fail
    go_ret2
    exact ⟨.inl ⟨_, HW2.out, by rw [← Hk.out, ← HO2.out]; rfl⟩, X1.out.trans Hx.out⟩
   ·go_wp2_with fail
    go_ret2
    exact ⟨.inl ⟨_, HW2.out, by rw [← Hk.out, ← HO2.out]; rfl⟩, X1.out.trans Hx.out⟩
set_option maxHeartbeats 6400000 in
set_option maxRecDepth 1000000 in
theorem wrong9 (c : CronV) (hO : CronIn c) (F : Nat) (hF : F < 6) (hr : c.rightB = true) (w : World) (hI : CronItems w c) (hE : Env w) :
 Calls Tryz.prog 33 #[.agg c.cells, .int .i64 F, .int .i64 9] w (WrongPost w (wrongO c F 9)) := by
 have HC : Hid (CronAt (w.alloc (.cells c.cells 27)) w.heap.size c) := cron_alloc w c
 have HX : Hid (Ext w (w.alloc (.cells c.cells 27))) := Ext.alloc _ _
 have hcw := HC.out.whole
 have HI := Lib.hid hI
 have HO := Lib.hid hO
 have HRB := Lib.hid hr
 have HRI := Lib.hid (right_is hr)
 have HW := Lib.hid (wrong_go (how := 9) hr hF)
 generalize hR : wrongO c F 9 = R at *
 unfold WrongPost
 have h0F : ¬ ((F : Int) < 0) := by omega
 have h5F : ¬ ((5 : Int) < F) := by omega
 clear hR hI hO
 go_enter Tryz.func33, Tryz.ntmps33
 go_wp2_with fail
 go_at_call 13
 refine (right_cron c HO.out _ (HI.out.ext HX.out) (hE.ext HX.out)).mono ?_
 rintro e w1 ⟨rfl, x1⟩
 rw [HRB.out]
 have C1 := Lib.hid (HC.out.ext x1)
 have X1 := Lib.hid (HX.out.trans x1)
 clear x1 hcw hr
 obtain ⟨PL, hPL⟩ : ∃ PL : List UInt8, PL = [76, 44, 51] := ⟨_, rfl⟩
 have HPL := Lib.hid hPL
 have HW2 : Hid (R = some (joinL 32 (c.bents 3 PL c.last))) := by
  show _ = _
  rw [HW.out, hPL]
  rcases (show F = 0 ∨ F = 1 ∨ F = 2 ∨ F = 3 ∨ F = 4 ∨ F = 5 by omega) with rfl | rfl | rfl | rfl | rfl | rfl <;> rfl
 have HPS : Hid (PL.length ≤ 5) := by
  show _ ≤ _
  rw [hPL]
  decide
 clear hPL HW
 have HOK : Hid (CronOk c) := cron_ok HO.out HRI.out.all
 have HQB : Hid ((mk [76, 44, 51]) = mk PL) := by
  show _ = _
  rw [HPL.out]
 have hqbs : ((mk [76, 44, 51])).size ≤ 5 := by rw [HQB.out, size_mk]; exact HPS.out
 obtain ⟨L, hL⟩ : ∃ L, L = c.last := ⟨_, rfl⟩
 have hL7 : L ≤ 7 := by rw [hL]; exact (last_le c).1
 obtain ⟨six, hsix⟩ : ∃ six, six = c.six := ⟨_, rfl⟩
 have HLS : Hid (L = if six then 6 else 7) := by show _ = _; rw [hL, hsix]; rfl
 have H42 : Hid (w1.cell? ⟨w.heap.size, 42, none⟩ = some (.bool six)) := by rw [hsix]; exact C1.out.six
 rw [← hL] at HW2
 clear hL hsix
 go_wp2_with fail
 go_loopw [10, 11] (fun o i wr => ∃ (k : Nat) (O : ByteArray), k ≤ L ∧ i = .int .i64 k ∧ o = .string O ∧ Hid (O = mk (joinL 32 (c.bents 3 PL k))) ∧ O.size ≤ k * 431 ∧ Hid (Ext w1 wr))
  (fun _ i _ => 7 - (RowKit.intOf i).toNat)
 case atStart => exact ⟨0, ⟨#[]⟩, Nat.zero_le _, rfl, rfl, rfl, Nat.zero_le _, Ext.refl _⟩
 case round =>
  obtain ⟨k, O, hk, rfl, rfl, HO2, hsz, Hx⟩ := hrel
  have c42 : wr.cell? ⟨w.heap.size, 42, none⟩ = some (.bool six) := Hx.out.cell H42.out
  by_cases hlt : k < L
  ·have h7 : k < 7 := by omega
   have h6 : k = 6 → six = false := by
    intro e
    have hl := HLS.out
    cases six
    ·rfl
    ·rw [if_pos rfl] at hl; omega
   have HJ : Hid (joinL 32 (c.bents 3 PL (k + 1)) = if 0 < k then joinL 32 (c.bents 3 PL k) ++ 32 :: c.bent 3 PL k else c.bent 3 PL k) := bents_join c 3 PL k
   by_cases hkF : k = 3
   ·have HB : Hid (c.bent 3 PL k = PL) := by show _ = _; unfold CronV.bent; rw [if_pos hkF]
    have eF : ((k : Int) == 3) = true := by simp; omega
    have e6 : ((k : Int) == 6) = false := by rw [beq_eq_false_iff_ne]; omega
    clear h6
    by_cases h0 : 0 < k
    ·have Hn : Hid (O ++ mk [32] ++ (mk [76, 44, 51]) = mk (joinL 32 (c.bents 3 PL (k + 1)))) := by
      show _ = _
      rw [HJ.out, if_pos h0, HO2.out, HB.out, HQB.out, mk_append, mk_append]
      simp
     have hsn : (O ++ mk [32] ++ (mk [76, 44, 51])).size ≤ (k + 1) * 431 := by
      have e : (O ++ mk [32] ++ (mk [76, 44, 51])).size = O.size + 1 + (mk [76, 44, 51]).size := by rw [ByteArray.size_append, ByteArray.size_append]; rfl
      rw [e]; omega
     clear hkF
     go_wp2_with fail
     go_roundw
     case rel => exact ⟨k + 1, _, by omega, by go_num, rfl, Hn, hsn, Hx⟩
     case measure => simp [RowKit.intOf] <;> omega
    ·exact absurd h0 (by omega)
   ·have eF : ((k : Int) == 3) = false := by rw [beq_eq_false_iff_ne]; omega
    by_cases hd : (k = 3 ∧ 3 = 5) ∨ (k = 5 ∧ 3 = 3)
    ·have HB : Hid (c.bent 3 PL k = [63]) := by show _ = _; unfold CronV.bent; rw [if_neg hkF, if_pos hd]
     have e6 : ((k : Int) == 6) = false := by rw [beq_eq_false_iff_ne]; omega
     have h0 : 0 < k := by omega
     have Hn : Hid (O ++ mk [32] ++ mk [63] = mk (joinL 32 (c.bents 3 PL (k + 1)))) := by
      show _ = _
      rw [HJ.out, if_pos h0, HO2.out, HB.out, mk_append, mk_append]
      simp
     have hsn : (O ++ mk [32] ++ mk [63]).size ≤ (k + 1) * 431 := by
      have e : (O ++ mk [32] ++ mk [63]).size = O.size + 1 + 1 := by rw [ByteArray.size_append, ByteArray.size_append]; rfl
      rw [e]; omega
     clear h6
     rcases hd with ⟨hk, hq⟩ | ⟨hk, hq⟩
     ·exact absurd hq (by decide)
     ·have e3 : ((k : Int) == 3) = false := by rw [beq_eq_false_iff_ne]; omega
      have e5 : ((k : Int) == 5) = true := by simp; omega
      clear hk hq
      go_wp2_with fail
      go_roundw
      case rel => exact ⟨k + 1, _, by omega, by go_num, rfl, Hn, hsn, Hx⟩
      case measure => simp [RowKit.intOf] <;> omega
    ·have HB : Hid (c.bent 3 PL k = (c.p k).text k) := by show _ = _; unfold CronV.bent; rw [if_neg hkF, if_neg hd]
     have CA := C1.out.ext Hx.out
     have d0 := CA.k k h7
     have d1 := CA.a k h7
     have d2 := CA.b k h7
     have d3 := CA.s k h7
     have d4 := CA.n k h7
     have d5 := CA.it k h7
     obtain ⟨tx, htx⟩ : ∃ tx, tx = mk ((c.p k).text k) := ⟨_, rfl⟩
     have sx : tx.size ≤ 430 := by rw [htx, size_mk]; exact part_len (HOK.out.part k h7)
     have HCX : Hid (∀ W, Ext w W → Calls Tryz.prog 37 #[.int .i64 k, .agg #[.int .i64 (c.p k).k, .int .i64 (c.p k).a, .int .i64 (c.p k).b, .int .i64 (c.p k).s, .int .i64 (c.p k).n, .slice (c.p k).ia (c.p k).items.length (c.p k).cap]] W fun e w' => e = .returned (.string tx) ∧ Ext W w') := fun W hW => by
      rw [htx]; exact text_part k h7 (c.p k) (HOK.out.part k h7) W ((HI.out k h7).ext hW) (hE.ext hW)
     have HTX := Lib.hid htx
     have HXX : Hid (Ext w wr) := X1.out.trans Hx.out
     generalize c.p k = pk at d0 d1 d2 d3 d4 d5 HCX HTX HB
     clear htx CA
     obtain ⟨q0, q1, q2, q3, q4, q5, q6, q7⟩ := pk
     obtain ⟨L8, hL8⟩ : ∃ L8, L8 = q7.length := ⟨_, rfl⟩
     simp only at d0 d1 d2 d3 d4 d5 HCX
     rw [← hL8] at d5 HCX
     clear hL8
     have Hn0 : Hid (¬ 0 < k → O ++ tx = mk (joinL 32 (c.bents 3 PL (k + 1)))) := by
      intro h0
      have hk0 : k = 0 := by omega
      rw [HJ.out, if_neg h0, HO2.out, HB.out, HTX.out, mk_append, hk0]
      rfl
     have Hn1 : Hid (0 < k → O ++ mk [32] ++ tx = mk (joinL 32 (c.bents 3 PL (k + 1)))) := by
      intro h0
      rw [HJ.out, if_pos h0, HO2.out, HB.out, HTX.out, mk_append, mk_append]
      simp
     have hs0 : (O ++ tx).size ≤ (k + 1) * 431 := by rw [ByteArray.size_append]; omega
     have hs1 : (O ++ mk [32] ++ tx).size ≤ (k + 1) * 431 := by
      have e : (O ++ mk [32] ++ tx).size = O.size + 1 + tx.size := by rw [ByteArray.size_append, ByteArray.size_append]; rfl
      rw [e]; omega
     have Hs0 := Lib.hid hs0
     have Hs1 := Lib.hid hs1
     clear hs0 hs1
     by_cases hk : k = 3
     ·exact absurd hk hkF
     ·by_cases hk3 : k = 5
      ·have hk := hk3
       clear hk3
       exact absurd (Or.inr ⟨hk, rfl⟩) hd
      ·by_cases hk6 : k = 6
       ·have hk := hk6
        clear hk6
        have h0 : 0 < k := by omega
        have e3 : ((k : Int) == 3) = false := by rw [beq_eq_false_iff_ne]; omega
        have e5 : ((k : Int) == 5) = false := by rw [beq_eq_false_iff_ne]; omega
        have e6 : ((k : Int) == 6) = true := by simp; omega
        have hs := h6 hk
        subst hs
        have Hn := Lib.hid (Hn1.out h0)
        clear Hn0 Hn1 h6
        clear hk
        go_wp2_with fail
        go_at_call 37
        refine (HCX.out _ HXX.out).mono ?_
        rintro e w4 ⟨rfl, x4⟩
        have X4 := Lib.hid (Hx.out.trans x4)
        clear x4
        go_wp2_with fail
        go_roundw
        case rel => exact ⟨k + 1, _, by omega, by go_num, rfl, Hn, Hs1.out, X4⟩
        case measure => simp [RowKit.intOf] <;> omega
       ·by_cases hk0 : k = 0
        ·have hk := hk0
         clear hk0
         have h0 : ¬ 0 < k := by omega
         have e3 : ((k : Int) == 3) = false := by rw [beq_eq_false_iff_ne]; omega
         have e5 : ((k : Int) == 5) = false := by rw [beq_eq_false_iff_ne]; omega
         have e6 : ((k : Int) == 6) = false := by rw [beq_eq_false_iff_ne]; omega
         have Hn := Lib.hid (Hn0.out h0)
         clear Hn0 Hn1 h6
         clear hk
         go_wp2_with fail
         go_at_call 37
         refine (HCX.out _ HXX.out).mono ?_
         rintro e w4 ⟨rfl, x4⟩
         have X4 := Lib.hid (Hx.out.trans x4)
         clear x4
         go_wp2_with fail
         go_roundw
         case rel => exact ⟨k + 1, _, by omega, by go_num, rfl, Hn, Hs0.out, X4⟩
         case measure => simp [RowKit.intOf] <;> omega
        ·have h0 : 0 < k := by omega
         have e3 : ((k : Int) == 3) = false := by rw [beq_eq_false_iff_ne]; omega
         have e5 : ((k : Int) == 5) = false := by rw [beq_eq_false_iff_ne]; omega
         have e6 : ((k : Int) == 6) = false := by rw [beq_eq_false_iff_ne]; omega
         have Hn := Lib.hid (Hn1.out h0)
         clear Hn0 Hn1 h6
         clear hk
         go_wp2_with fail
         go_at_call 37
         refine (HCX.out _ HXX.out).mono ?_
         rintro e w4 ⟨rfl, x4⟩
         have X4 := Lib.hid (Hx.out.trans x4)
         clear x4
         go_wp2_with fail
         go_roundw
         case rel => exact ⟨k + 1, _, by omega, by go_num, rfl, Hn, Hs1.out, X4⟩
         case measure => simp [RowKit.intOf] <;> omega
  ·have Hk : Hid (k = L) := by show _ = _; omega
   have e6 : k = 6 → six = true := by
    intro e
    have hl := HLS.out
    rcases six with _ | _
    ·rw [if_neg (by decide)] at hl; omega
    ·rfl
   have hL67 : L = 6 ∨ L = 7 := by have hl := HLS.out; split at hl <;> omega
   have HE6 := Lib.hid e6
   clear e6
   have hkk : k = 6 ∨ k = 7 := by have := Hk.out; omega
   rcases hkk with rfl | rfl
   ·have hs := HE6.out rfl
    subst hs
    go_wp2_with fail
    go_ret2
    exact ⟨.inl ⟨_, HW2.out, by rw [← Hk.out, ← HO2.out]; rfl⟩, X1.out.trans Hx.out⟩
   ·go_wp2_with fail
    go_ret2
    exact ⟨.inl ⟨_, HW2.out, by rw [← Hk.out, ← HO2.out]; rfl⟩, X1.out.trans Hx.out⟩
set_option maxHeartbeats 6400000 in
set_option maxRecDepth 1000000 in
theorem wrong3 (c : CronV) (hO : CronIn c) (F : Nat) (hF : F < 6) (hr : c.rightB = true) (w : World) (hI : CronItems w c) (hE : Env w) :
 Calls Tryz.prog 33 #[.agg c.cells, .int .i64 F, .int .i64 3] w (WrongPost w (wrongO c F 3)) := by
 have HC : Hid (CronAt (w.alloc (.cells c.cells 27)) w.heap.size c) := cron_alloc w c
 have HX : Hid (Ext w (w.alloc (.cells c.cells 27))) := Ext.alloc _ _
 have hcw := HC.out.whole
 have HI := Lib.hid hI
 have HO := Lib.hid hO
 have HRB := Lib.hid hr
 have HRI := Lib.hid (right_is hr)
 have HW := Lib.hid (wrong_go (how := 3) hr hF)
 generalize hR : wrongO c F 3 = R at *
 unfold WrongPost
 have h0F : ¬ ((F : Int) < 0) := by omega
 have h5F : ¬ ((5 : Int) < F) := by omega
 clear hR hI hO
 go_enter Tryz.func33, Tryz.ntmps33
 go_wp2_with fail
 go_at_call 13
 refine (right_cron c HO.out _ (HI.out.ext HX.out) (hE.ext HX.out)).mono ?_
 rintro e w1 ⟨rfl, x1⟩
 rw [HRB.out]
 have C1 := Lib.hid (HC.out.ext x1)
 have X1 := Lib.hid (HX.out.trans x1)
 clear x1 hcw hr
 obtain ⟨PL, hPL⟩ : ∃ PL : List UInt8, PL = itoa (mostF F + 1) := ⟨_, rfl⟩
 have HPL := Lib.hid hPL
 have HW2 : Hid (R = some (joinL 32 (c.bents F PL c.last))) := by
  show _ = _
  rw [HW.out, hPL]
  have ht : wrongTab F 3 = some (F, itoa (mostF F + 1)) := by
   rcases (show F = 0 ∨ F = 1 ∨ F = 2 ∨ F = 3 ∨ F = 4 ∨ F = 5 by omega) with rfl | rfl | rfl | rfl | rfl | rfl <;> decide +kernel
  rw [if_neg (by decide), if_neg (by decide), if_neg (by decide), if_neg (by decide), if_neg (by decide)]
  show Option.map _ (wrongTab F 3) = _
  rw [ht]; rfl
 have HPS : Hid (PL.length ≤ 5) := by
  show _ ≤ _
  rw [hPL]
  rcases (show F = 0 ∨ F = 1 ∨ F = 2 ∨ F = 3 ∨ F = 4 ∨ F = 5 by omega) with rfl | rfl | rfl | rfl | rfl | rfl <;> decide +kernel
 clear hPL HW
 have Cw1 := C1
 have Xw1 := X1
 have HIT : Hid (∀ (n : Int) W, Joins.In64 n → Ext w W → Calls Tryz.prog 56 #[.int .i64 n] W fun e W' => e = .returned (.string (mk (itoa n))) ∧ Ext W W') := fun n W hn hW => itoa_any n hn W (hE.ext hW)
 have hm0 : 0 ≤ mostF F ∧ mostF F ≤ 60 := by
  rcases (show F = 0 ∨ F = 1 ∨ F = 2 ∨ F = 3 ∨ F = 4 ∨ F = 5 by omega) with rfl | rfl | rfl | rfl | rfl | rfl <;> decide
 go_wp2_with fail
 go_at_call 57
 refine (most_any F (by omega) _).mono ?_
 rintro e w2 ⟨rfl, xw2⟩
 have Cw2 := Lib.hid (Cw1.out.ext xw2)
 have Xw2 := Lib.hid (Xw1.out.trans xw2)
 clear xw2
 generalize mostF F = m at *
 obtain ⟨hm1, hm2⟩ := hm0
 go_wp2_with fail
 go_at_call 56
 refine (HIT.out (m + 1) _ (by constructor <;> omega) Xw2.out).mono ?_
 rintro e w3 ⟨rfl, xw3⟩
 have Cw3 := Lib.hid (Cw2.out.ext xw3)
 have Xw3 := Lib.hid (Xw2.out.trans xw3)
 clear xw3
 have HOK : Hid (CronOk c) := cron_ok HO.out HRI.out.all
 have HQB : Hid ((mk (itoa (m + 1))) = mk PL) := by
  show _ = _
  rw [HPL.out]
 have hqbs : ((mk (itoa (m + 1)))).size ≤ 5 := by rw [HQB.out, size_mk]; exact HPS.out
 obtain ⟨L, hL⟩ : ∃ L, L = c.last := ⟨_, rfl⟩
 have hL7 : L ≤ 7 := by rw [hL]; exact (last_le c).1
 obtain ⟨six, hsix⟩ : ∃ six, six = c.six := ⟨_, rfl⟩
 have HLS : Hid (L = if six then 6 else 7) := by show _ = _; rw [hL, hsix]; rfl
 have H42 : Hid (w3.cell? ⟨w.heap.size, 42, none⟩ = some (.bool six)) := by rw [hsix]; exact Cw3.out.six
 rw [← hL] at HW2
 clear hL hsix
 go_wp2_with fail
 go_loopw [10, 11] (fun o i wr => ∃ (k : Nat) (O : ByteArray), k ≤ L ∧ i = .int .i64 k ∧ o = .string O ∧ Hid (O = mk (joinL 32 (c.bents F PL k))) ∧ O.size ≤ k * 431 ∧ Hid (Ext w3 wr))
  (fun _ i _ => 7 - (RowKit.intOf i).toNat)
 case atStart => exact ⟨0, ⟨#[]⟩, Nat.zero_le _, rfl, rfl, rfl, Nat.zero_le _, Ext.refl _⟩
 case round =>
  obtain ⟨k, O, hk, rfl, rfl, HO2, hsz, Hx⟩ := hrel
  have c42 : wr.cell? ⟨w.heap.size, 42, none⟩ = some (.bool six) := Hx.out.cell H42.out
  by_cases hlt : k < L
  ·have h7 : k < 7 := by omega
   have h6 : k = 6 → six = false := by
    intro e
    have hl := HLS.out
    cases six
    ·rfl
    ·rw [if_pos rfl] at hl; omega
   have HJ : Hid (joinL 32 (c.bents F PL (k + 1)) = if 0 < k then joinL 32 (c.bents F PL k) ++ 32 :: c.bent F PL k else c.bent F PL k) := bents_join c F PL k
   by_cases hkF : k = F
   ·have HB : Hid (c.bent F PL k = PL) := by show _ = _; unfold CronV.bent; rw [if_pos hkF]
    have eF : ((k : Int) == (F : Int)) = true := by simp; omega
    have e6 : ((k : Int) == 6) = false := by rw [beq_eq_false_iff_ne]; omega
    clear h6
    by_cases h0 : 0 < k
    ·have Hn : Hid (O ++ mk [32] ++ (mk (itoa (m + 1))) = mk (joinL 32 (c.bents F PL (k + 1)))) := by
      show _ = _
      rw [HJ.out, if_pos h0, HO2.out, HB.out, HQB.out, mk_append, mk_append]
      simp
     have hsn : (O ++ mk [32] ++ (mk (itoa (m + 1)))).size ≤ (k + 1) * 431 := by
      have e : (O ++ mk [32] ++ (mk (itoa (m + 1)))).size = O.size + 1 + (mk (itoa (m + 1))).size := by rw [ByteArray.size_append, ByteArray.size_append]; rfl
      rw [e]; omega
     clear hkF
     go_wp2_with fail
     go_roundw
     case rel => exact ⟨k + 1, _, by omega, by go_num, rfl, Hn, hsn, Hx⟩
     case measure => simp [RowKit.intOf] <;> omega
    ·have hk0 : k = 0 := by omega
     have Hn : Hid (O ++ (mk (itoa (m + 1))) = mk (joinL 32 (c.bents F PL (k + 1)))) := by
      show _ = _
      rw [HJ.out, if_neg h0, HO2.out, HB.out, HQB.out, mk_append, hk0]
      rfl
     have hsn : (O ++ (mk (itoa (m + 1)))).size ≤ (k + 1) * 431 := by rw [ByteArray.size_append]; omega
     clear hkF
     subst hk0
     go_wp2_with fail
     go_roundw
     case rel => exact ⟨1, _, by omega, by go_num, rfl, Hn, hsn, Hx⟩
     case measure => simp [RowKit.intOf] <;> omega
   ·have eF : ((k : Int) == (F : Int)) = false := by rw [beq_eq_false_iff_ne]; omega
    by_cases hd : (k = 3 ∧ F = 5) ∨ (k = 5 ∧ F = 3)
    ·have HB : Hid (c.bent F PL k = [63]) := by show _ = _; unfold CronV.bent; rw [if_neg hkF, if_pos hd]
     have e6 : ((k : Int) == 6) = false := by rw [beq_eq_false_iff_ne]; omega
     have h0 : 0 < k := by omega
     have Hn : Hid (O ++ mk [32] ++ mk [63] = mk (joinL 32 (c.bents F PL (k + 1)))) := by
      show _ = _
      rw [HJ.out, if_pos h0, HO2.out, HB.out, mk_append, mk_append]
      simp
     have hsn : (O ++ mk [32] ++ mk [63]).size ≤ (k + 1) * 431 := by
      have e : (O ++ mk [32] ++ mk [63]).size = O.size + 1 + 1 := by rw [ByteArray.size_append, ByteArray.size_append]; rfl
      rw [e]; omega
     clear h6
     rcases hd with ⟨hk, hq⟩ | ⟨hk, hq⟩
     ·have e3 : ((k : Int) == 3) = true := by simp; omega
      have f5 : ((F : Int) == 5) = true := by simp; omega
      clear hk hq
      go_wp2_with fail
      go_roundw
      case rel => exact ⟨k + 1, _, by omega, by go_num, rfl, Hn, hsn, Hx⟩
      case measure => simp [RowKit.intOf] <;> omega
     ·have e3 : ((k : Int) == 3) = false := by rw [beq_eq_false_iff_ne]; omega
      have e5 : ((k : Int) == 5) = true := by simp; omega
      have f3 : ((F : Int) == 3) = true := by simp; omega
      clear hk hq
      go_wp2_with fail
      go_roundw
      case rel => exact ⟨k + 1, _, by omega, by go_num, rfl, Hn, hsn, Hx⟩
      case measure => simp [RowKit.intOf] <;> omega
    ·have HB : Hid (c.bent F PL k = (c.p k).text k) := by show _ = _; unfold CronV.bent; rw [if_neg hkF, if_neg hd]
     have CA := Cw3.out.ext Hx.out
     have d0 := CA.k k h7
     have d1 := CA.a k h7
     have d2 := CA.b k h7
     have d3 := CA.s k h7
     have d4 := CA.n k h7
     have d5 := CA.it k h7
     obtain ⟨tx, htx⟩ : ∃ tx, tx = mk ((c.p k).text k) := ⟨_, rfl⟩
     have sx : tx.size ≤ 430 := by rw [htx, size_mk]; exact part_len (HOK.out.part k h7)
     have HCX : Hid (∀ W, Ext w W → Calls Tryz.prog 37 #[.int .i64 k, .agg #[.int .i64 (c.p k).k, .int .i64 (c.p k).a, .int .i64 (c.p k).b, .int .i64 (c.p k).s, .int .i64 (c.p k).n, .slice (c.p k).ia (c.p k).items.length (c.p k).cap]] W fun e w' => e = .returned (.string tx) ∧ Ext W w') := fun W hW => by
      rw [htx]; exact text_part k h7 (c.p k) (HOK.out.part k h7) W ((HI.out k h7).ext hW) (hE.ext hW)
     have HTX := Lib.hid htx
     have HXX : Hid (Ext w wr) := Xw3.out.trans Hx.out
     generalize c.p k = pk at d0 d1 d2 d3 d4 d5 HCX HTX HB
     clear htx CA
     obtain ⟨q0, q1, q2, q3, q4, q5, q6, q7⟩ := pk
     obtain ⟨L8, hL8⟩ : ∃ L8, L8 = q7.length := ⟨_, rfl⟩
     simp only at d0 d1 d2 d3 d4 d5 HCX
     rw [← hL8] at d5 HCX
     clear hL8
     have Hn0 : Hid (¬ 0 < k → O ++ tx = mk (joinL 32 (c.bents F PL (k + 1)))) := by
      intro h0
      have hk0 : k = 0 := by omega
      rw [HJ.out, if_neg h0, HO2.out, HB.out, HTX.out, mk_append, hk0]
      rfl
     have Hn1 : Hid (0 < k → O ++ mk [32] ++ tx = mk (joinL 32 (c.bents F PL (k + 1)))) := by
      intro h0
      rw [HJ.out, if_pos h0, HO2.out, HB.out, HTX.out, mk_append, mk_append]
      simp
     have hs0 : (O ++ tx).size ≤ (k + 1) * 431 := by rw [ByteArray.size_append]; omega
     have hs1 : (O ++ mk [32] ++ tx).size ≤ (k + 1) * 431 := by
      have e : (O ++ mk [32] ++ tx).size = O.size + 1 + tx.size := by rw [ByteArray.size_append, ByteArray.size_append]; rfl
      rw [e]; omega
     have Hs0 := Lib.hid hs0
     have Hs1 := Lib.hid hs1
     clear hs0 hs1
     by_cases hk : k = 3
     ·have h0 : 0 < k := by omega
      have e3 : ((k : Int) == 3) = true := by simp; omega
      have f5 : ((F : Int) == 5) = false := by rw [beq_eq_false_iff_ne]; omega
      have e5 : ((k : Int) == 5) = false := by rw [beq_eq_false_iff_ne]; omega
      have e6 : ((k : Int) == 6) = false := by rw [beq_eq_false_iff_ne]; omega
      have Hn := Lib.hid (Hn1.out h0)
      clear Hn0 Hn1 h6
      clear hk
      go_wp2_with fail
      go_at_call 37
      refine (HCX.out _ HXX.out).mono ?_
      rintro e w4 ⟨rfl, x4⟩
      have X4 := Lib.hid (Hx.out.trans x4)
      clear x4
      go_wp2_with fail
      go_roundw
      case rel => exact ⟨k + 1, _, by omega, by go_num, rfl, Hn, Hs1.out, X4⟩
      case measure => simp [RowKit.intOf] <;> omega
     ·by_cases hk3 : k = 5
      ·have hk := hk3
       clear hk3
       have h0 : 0 < k := by omega
       have e3 : ((k : Int) == 3) = false := by rw [beq_eq_false_iff_ne]; omega
       have e5 : ((k : Int) == 5) = true := by simp; omega
       have f3 : ((F : Int) == 3) = false := by rw [beq_eq_false_iff_ne]; omega
       have e6 : ((k : Int) == 6) = false := by rw [beq_eq_false_iff_ne]; omega
       have Hn := Lib.hid (Hn1.out h0)
       clear Hn0 Hn1 h6
       clear hk
       go_wp2_with fail
       go_at_call 37
       refine (HCX.out _ HXX.out).mono ?_
       rintro e w4 ⟨rfl, x4⟩
       have X4 := Lib.hid (Hx.out.trans x4)
       clear x4
       go_wp2_with fail
       go_roundw
       case rel => exact ⟨k + 1, _, by omega, by go_num, rfl, Hn, Hs1.out, X4⟩
       case measure => simp [RowKit.intOf] <;> omega
      ·by_cases hk6 : k = 6
       ·have hk := hk6
        clear hk6
        have h0 : 0 < k := by omega
        have e3 : ((k : Int) == 3) = false := by rw [beq_eq_false_iff_ne]; omega
        have e5 : ((k : Int) == 5) = false := by rw [beq_eq_false_iff_ne]; omega
        have e6 : ((k : Int) == 6) = true := by simp; omega
        have hs := h6 hk
        subst hs
        have Hn := Lib.hid (Hn1.out h0)
        clear Hn0 Hn1 h6
        clear hk
        go_wp2_with fail
        go_at_call 37
        refine (HCX.out _ HXX.out).mono ?_
        rintro e w4 ⟨rfl, x4⟩
        have X4 := Lib.hid (Hx.out.trans x4)
        clear x4
        go_wp2_with fail
        go_roundw
        case rel => exact ⟨k + 1, _, by omega, by go_num, rfl, Hn, Hs1.out, X4⟩
        case measure => simp [RowKit.intOf] <;> omega
       ·by_cases hk0 : k = 0
        ·have hk := hk0
         clear hk0
         have h0 : ¬ 0 < k := by omega
         have e3 : ((k : Int) == 3) = false := by rw [beq_eq_false_iff_ne]; omega
         have e5 : ((k : Int) == 5) = false := by rw [beq_eq_false_iff_ne]; omega
         have e6 : ((k : Int) == 6) = false := by rw [beq_eq_false_iff_ne]; omega
         have Hn := Lib.hid (Hn0.out h0)
         clear Hn0 Hn1 h6
         clear hk
         go_wp2_with fail
         go_at_call 37
         refine (HCX.out _ HXX.out).mono ?_
         rintro e w4 ⟨rfl, x4⟩
         have X4 := Lib.hid (Hx.out.trans x4)
         clear x4
         go_wp2_with fail
         go_roundw
         case rel => exact ⟨k + 1, _, by omega, by go_num, rfl, Hn, Hs0.out, X4⟩
         case measure => simp [RowKit.intOf] <;> omega
        ·have h0 : 0 < k := by omega
         have e3 : ((k : Int) == 3) = false := by rw [beq_eq_false_iff_ne]; omega
         have e5 : ((k : Int) == 5) = false := by rw [beq_eq_false_iff_ne]; omega
         have e6 : ((k : Int) == 6) = false := by rw [beq_eq_false_iff_ne]; omega
         have Hn := Lib.hid (Hn1.out h0)
         clear Hn0 Hn1 h6
         clear hk
         go_wp2_with fail
         go_at_call 37
         refine (HCX.out _ HXX.out).mono ?_
         rintro e w4 ⟨rfl, x4⟩
         have X4 := Lib.hid (Hx.out.trans x4)
         clear x4
         go_wp2_with fail
         go_roundw
         case rel => exact ⟨k + 1, _, by omega, by go_num, rfl, Hn, Hs1.out, X4⟩
         case measure => simp [RowKit.intOf] <;> omega
  ·have Hk : Hid (k = L) := by show _ = _; omega
   have e6 : k = 6 → six = true := by
    intro e
    have hl := HLS.out
    rcases six with _ | _
    ·rw [if_neg (by decide)] at hl; omega
    ·rfl
   have hL67 : L = 6 ∨ L = 7 := by have hl := HLS.out; split at hl <;> omega
   have HE6 := Lib.hid e6
   clear e6
   have hkk : k = 6 ∨ k = 7 := by have := Hk.out; omega
   rcases hkk with rfl | rfl
   ·have hs := HE6.out rfl
    subst hs
    go_wp2_with fail
    go_ret2
    exact ⟨.inl ⟨_, HW2.out, by rw [← Hk.out, ← HO2.out]; rfl⟩, Xw3.out.trans Hx.out⟩
   ·go_wp2_with fail
    go_ret2
    exact ⟨.inl ⟨_, HW2.out, by rw [← Hk.out, ← HO2.out]; rfl⟩, Xw3.out.trans Hx.out⟩
set_option maxHeartbeats 6400000 in
set_option maxRecDepth 1000000 in
theorem wrong4a (c : CronV) (hO : CronIn c) (F : Nat) (hF : F < 6) (hr : c.rightB = true) (hs : F < 3) (w : World) (hI : CronItems w c) (hE : Env w) :
 Calls Tryz.prog 33 #[.agg c.cells, .int .i64 F, .int .i64 4] w (WrongPost w (wrongO c F 4)) := by
 have HC : Hid (CronAt (w.alloc (.cells c.cells 27)) w.heap.size c) := cron_alloc w c
 have HX : Hid (Ext w (w.alloc (.cells c.cells 27))) := Ext.alloc _ _
 have hcw := HC.out.whole
 have HI := Lib.hid hI
 have HO := Lib.hid hO
 have HRB := Lib.hid hr
 have HRI := Lib.hid (right_is hr)
 have HW := Lib.hid (wrong_go (how := 4) hr hF)
 generalize hR : wrongO c F 4 = R at *
 unfold WrongPost
 have h0F : ¬ ((F : Int) < 0) := by omega
 have h5F : ¬ ((5 : Int) < F) := by omega
 clear hR hI hO
 go_enter Tryz.func33, Tryz.ntmps33
 go_wp2_with fail
 go_at_call 13
 refine (right_cron c HO.out _ (HI.out.ext HX.out) (hE.ext HX.out)).mono ?_
 rintro e w1 ⟨rfl, x1⟩
 rw [HRB.out]
 have C1 := Lib.hid (HC.out.ext x1)
 have X1 := Lib.hid (HX.out.trans x1)
 clear x1 hcw hr
 have HW2 : Hid (R = none) := by
  show _ = _
  rw [HW.out]
  rcases (show F = 0 ∨ F = 1 ∨ F = 2 by omega) with rfl | rfl | rfl <;> rfl
 have Cw1 := C1
 have Xw1 := X1
 have HIT : Hid (∀ (n : Int) W, Joins.In64 n → Ext w W → Calls Tryz.prog 56 #[.int .i64 n] W fun e W' => e = .returned (.string (mk (itoa n))) ∧ Ext W W') := fun n W hn hW => itoa_any n hn W (hE.ext hW)
 have hm0 : 0 ≤ leastF F ∧ leastF F ≤ 1 := by
  rcases (show F = 0 ∨ F = 1 ∨ F = 2 ∨ F = 3 ∨ F = 4 ∨ F = 5 by omega) with rfl | rfl | rfl | rfl | rfl | rfl <;> decide
 go_wp2_with fail
 go_at_call 58
 refine (least_any F (by omega) _).mono ?_
 rintro e w2 ⟨rfl, xw2⟩
 have Cw2 := Lib.hid (Cw1.out.ext xw2)
 have Xw2 := Lib.hid (Xw1.out.trans xw2)
 clear xw2
 generalize leastF F = m at *
 obtain ⟨hm1, hm2⟩ := hm0
 go_wp2_with fail
 go_at_call 56
 refine (HIT.out (m - 1) _ (by constructor <;> omega) Xw2.out).mono ?_
 rintro e w3 ⟨rfl, xw3⟩
 have Cw3 := Lib.hid (Cw2.out.ext xw3)
 have Xw3 := Lib.hid (Xw2.out.trans xw3)
 clear xw3
 have h3F : (F : Int) < 3 := by omega
 go_wp2_with fail
 go_ret2
 exact ⟨.inr ⟨HW2.out, rfl⟩, Xw3.out⟩
set_option maxHeartbeats 6400000 in
set_option maxRecDepth 1000000 in
theorem wrong4b (c : CronV) (hO : CronIn c) (F : Nat) (hF : F < 6) (hr : c.rightB = true) (hs : 3 ≤ F) (w : World) (hI : CronItems w c) (hE : Env w) :
 Calls Tryz.prog 33 #[.agg c.cells, .int .i64 F, .int .i64 4] w (WrongPost w (wrongO c F 4)) := by
 have HC : Hid (CronAt (w.alloc (.cells c.cells 27)) w.heap.size c) := cron_alloc w c
 have HX : Hid (Ext w (w.alloc (.cells c.cells 27))) := Ext.alloc _ _
 have hcw := HC.out.whole
 have HI := Lib.hid hI
 have HO := Lib.hid hO
 have HRB := Lib.hid hr
 have HRI := Lib.hid (right_is hr)
 have HW := Lib.hid (wrong_go (how := 4) hr hF)
 generalize hR : wrongO c F 4 = R at *
 unfold WrongPost
 have h0F : ¬ ((F : Int) < 0) := by omega
 have h5F : ¬ ((5 : Int) < F) := by omega
 clear hR hI hO
 go_enter Tryz.func33, Tryz.ntmps33
 go_wp2_with fail
 go_at_call 13
 refine (right_cron c HO.out _ (HI.out.ext HX.out) (hE.ext HX.out)).mono ?_
 rintro e w1 ⟨rfl, x1⟩
 rw [HRB.out]
 have C1 := Lib.hid (HC.out.ext x1)
 have X1 := Lib.hid (HX.out.trans x1)
 clear x1 hcw hr
 obtain ⟨PL, hPL⟩ : ∃ PL : List UInt8, PL = itoa (leastF F - 1) := ⟨_, rfl⟩
 have HPL := Lib.hid hPL
 have HW2 : Hid (R = some (joinL 32 (c.bents F PL c.last))) := by
  show _ = _
  rw [HW.out, hPL]
  have ht : wrongTab F 4 = some (F, itoa (leastF F - 1)) := by
   rcases (show F = 3 ∨ F = 4 ∨ F = 5 by omega) with rfl | rfl | rfl <;> decide +kernel
  rw [if_neg (by decide), if_neg (by decide), if_neg (by decide), if_neg (by decide), if_neg (by decide)]
  show Option.map _ (wrongTab F 4) = _
  rw [ht]; rfl
 have HPS : Hid (PL.length ≤ 5) := by
  show _ ≤ _
  rw [hPL]
  rcases (show F = 3 ∨ F = 4 ∨ F = 5 by omega) with rfl | rfl | rfl <;> decide +kernel
 clear hPL HW
 have Cw1 := C1
 have Xw1 := X1
 have HIT : Hid (∀ (n : Int) W, Joins.In64 n → Ext w W → Calls Tryz.prog 56 #[.int .i64 n] W fun e W' => e = .returned (.string (mk (itoa n))) ∧ Ext W W') := fun n W hn hW => itoa_any n hn W (hE.ext hW)
 have hm0 : 0 ≤ leastF F ∧ leastF F ≤ 1 := by
  rcases (show F = 0 ∨ F = 1 ∨ F = 2 ∨ F = 3 ∨ F = 4 ∨ F = 5 by omega) with rfl | rfl | rfl | rfl | rfl | rfl <;> decide
 go_wp2_with fail
 go_at_call 58
 refine (least_any F (by omega) _).mono ?_
 rintro e w2 ⟨rfl, xw2⟩
 have Cw2 := Lib.hid (Cw1.out.ext xw2)
 have Xw2 := Lib.hid (Xw1.out.trans xw2)
 clear xw2
 generalize leastF F = m at *
 obtain ⟨hm1, hm2⟩ := hm0
 go_wp2_with fail
 go_at_call 56
 refine (HIT.out (m - 1) _ (by constructor <;> omega) Xw2.out).mono ?_
 rintro e w3 ⟨rfl, xw3⟩
 have Cw3 := Lib.hid (Cw2.out.ext xw3)
 have Xw3 := Lib.hid (Xw2.out.trans xw3)
 clear xw3
 have h3F : ¬ ((F : Int) < 3) := by omega
 have HOK : Hid (CronOk c) := cron_ok HO.out HRI.out.all
 have HQB : Hid ((mk (itoa (m - 1))) = mk PL) := by
  show _ = _
  rw [HPL.out]
 have hqbs : ((mk (itoa (m - 1)))).size ≤ 5 := by rw [HQB.out, size_mk]; exact HPS.out
 obtain ⟨L, hL⟩ : ∃ L, L = c.last := ⟨_, rfl⟩
 have hL7 : L ≤ 7 := by rw [hL]; exact (last_le c).1
 obtain ⟨six, hsix⟩ : ∃ six, six = c.six := ⟨_, rfl⟩
 have HLS : Hid (L = if six then 6 else 7) := by show _ = _; rw [hL, hsix]; rfl
 have H42 : Hid (w3.cell? ⟨w.heap.size, 42, none⟩ = some (.bool six)) := by rw [hsix]; exact Cw3.out.six
 rw [← hL] at HW2
 clear hL hsix
 go_wp2_with fail
 go_loopw [10, 11] (fun o i wr => ∃ (k : Nat) (O : ByteArray), k ≤ L ∧ i = .int .i64 k ∧ o = .string O ∧ Hid (O = mk (joinL 32 (c.bents F PL k))) ∧ O.size ≤ k * 431 ∧ Hid (Ext w3 wr))
  (fun _ i _ => 7 - (RowKit.intOf i).toNat)
 case atStart => exact ⟨0, ⟨#[]⟩, Nat.zero_le _, rfl, rfl, rfl, Nat.zero_le _, Ext.refl _⟩
 case round =>
  obtain ⟨k, O, hk, rfl, rfl, HO2, hsz, Hx⟩ := hrel
  have c42 : wr.cell? ⟨w.heap.size, 42, none⟩ = some (.bool six) := Hx.out.cell H42.out
  by_cases hlt : k < L
  ·have h7 : k < 7 := by omega
   have h6 : k = 6 → six = false := by
    intro e
    have hl := HLS.out
    cases six
    ·rfl
    ·rw [if_pos rfl] at hl; omega
   have HJ : Hid (joinL 32 (c.bents F PL (k + 1)) = if 0 < k then joinL 32 (c.bents F PL k) ++ 32 :: c.bent F PL k else c.bent F PL k) := bents_join c F PL k
   by_cases hkF : k = F
   ·have HB : Hid (c.bent F PL k = PL) := by show _ = _; unfold CronV.bent; rw [if_pos hkF]
    have eF : ((k : Int) == (F : Int)) = true := by simp; omega
    have e6 : ((k : Int) == 6) = false := by rw [beq_eq_false_iff_ne]; omega
    clear h6
    by_cases h0 : 0 < k
    ·have Hn : Hid (O ++ mk [32] ++ (mk (itoa (m - 1))) = mk (joinL 32 (c.bents F PL (k + 1)))) := by
      show _ = _
      rw [HJ.out, if_pos h0, HO2.out, HB.out, HQB.out, mk_append, mk_append]
      simp
     have hsn : (O ++ mk [32] ++ (mk (itoa (m - 1)))).size ≤ (k + 1) * 431 := by
      have e : (O ++ mk [32] ++ (mk (itoa (m - 1)))).size = O.size + 1 + (mk (itoa (m - 1))).size := by rw [ByteArray.size_append, ByteArray.size_append]; rfl
      rw [e]; omega
     clear hkF
     go_wp2_with fail
     go_roundw
     case rel => exact ⟨k + 1, _, by omega, by go_num, rfl, Hn, hsn, Hx⟩
     case measure => simp [RowKit.intOf] <;> omega
    ·exact absurd h0 (by omega)
   ·have eF : ((k : Int) == (F : Int)) = false := by rw [beq_eq_false_iff_ne]; omega
    by_cases hd : (k = 3 ∧ F = 5) ∨ (k = 5 ∧ F = 3)
    ·have HB : Hid (c.bent F PL k = [63]) := by show _ = _; unfold CronV.bent; rw [if_neg hkF, if_pos hd]
     have e6 : ((k : Int) == 6) = false := by rw [beq_eq_false_iff_ne]; omega
     have h0 : 0 < k := by omega
     have Hn : Hid (O ++ mk [32] ++ mk [63] = mk (joinL 32 (c.bents F PL (k + 1)))) := by
      show _ = _
      rw [HJ.out, if_pos h0, HO2.out, HB.out, mk_append, mk_append]
      simp
     have hsn : (O ++ mk [32] ++ mk [63]).size ≤ (k + 1) * 431 := by
      have e : (O ++ mk [32] ++ mk [63]).size = O.size + 1 + 1 := by rw [ByteArray.size_append, ByteArray.size_append]; rfl
      rw [e]; omega
     clear h6
     rcases hd with ⟨hk, hq⟩ | ⟨hk, hq⟩
     ·have e3 : ((k : Int) == 3) = true := by simp; omega
      have f5 : ((F : Int) == 5) = true := by simp; omega
      clear hk hq
      go_wp2_with fail
      go_roundw
      case rel => exact ⟨k + 1, _, by omega, by go_num, rfl, Hn, hsn, Hx⟩
      case measure => simp [RowKit.intOf] <;> omega
     ·have e3 : ((k : Int) == 3) = false := by rw [beq_eq_false_iff_ne]; omega
      have e5 : ((k : Int) == 5) = true := by simp; omega
      have f3 : ((F : Int) == 3) = true := by simp; omega
      clear hk hq
      go_wp2_with fail
      go_roundw
      case rel => exact ⟨k + 1, _, by omega, by go_num, rfl, Hn, hsn, Hx⟩
      case measure => simp [RowKit.intOf] <;> omega
    ·have HB : Hid (c.bent F PL k = (c.p k).text k) := by show _ = _; unfold CronV.bent; rw [if_neg hkF, if_neg hd]
     have CA := Cw3.out.ext Hx.out
     have d0 := CA.k k h7
     have d1 := CA.a k h7
     have d2 := CA.b k h7
     have d3 := CA.s k h7
     have d4 := CA.n k h7
     have d5 := CA.it k h7
     obtain ⟨tx, htx⟩ : ∃ tx, tx = mk ((c.p k).text k) := ⟨_, rfl⟩
     have sx : tx.size ≤ 430 := by rw [htx, size_mk]; exact part_len (HOK.out.part k h7)
     have HCX : Hid (∀ W, Ext w W → Calls Tryz.prog 37 #[.int .i64 k, .agg #[.int .i64 (c.p k).k, .int .i64 (c.p k).a, .int .i64 (c.p k).b, .int .i64 (c.p k).s, .int .i64 (c.p k).n, .slice (c.p k).ia (c.p k).items.length (c.p k).cap]] W fun e w' => e = .returned (.string tx) ∧ Ext W w') := fun W hW => by
      rw [htx]; exact text_part k h7 (c.p k) (HOK.out.part k h7) W ((HI.out k h7).ext hW) (hE.ext hW)
     have HTX := Lib.hid htx
     have HXX : Hid (Ext w wr) := Xw3.out.trans Hx.out
     generalize c.p k = pk at d0 d1 d2 d3 d4 d5 HCX HTX HB
     clear htx CA
     obtain ⟨q0, q1, q2, q3, q4, q5, q6, q7⟩ := pk
     obtain ⟨L8, hL8⟩ : ∃ L8, L8 = q7.length := ⟨_, rfl⟩
     simp only at d0 d1 d2 d3 d4 d5 HCX
     rw [← hL8] at d5 HCX
     clear hL8
     have Hn0 : Hid (¬ 0 < k → O ++ tx = mk (joinL 32 (c.bents F PL (k + 1)))) := by
      intro h0
      have hk0 : k = 0 := by omega
      rw [HJ.out, if_neg h0, HO2.out, HB.out, HTX.out, mk_append, hk0]
      rfl
     have Hn1 : Hid (0 < k → O ++ mk [32] ++ tx = mk (joinL 32 (c.bents F PL (k + 1)))) := by
      intro h0
      rw [HJ.out, if_pos h0, HO2.out, HB.out, HTX.out, mk_append, mk_append]
      simp
     have hs0 : (O ++ tx).size ≤ (k + 1) * 431 := by rw [ByteArray.size_append]; omega
     have hs1 : (O ++ mk [32] ++ tx).size ≤ (k + 1) * 431 := by
      have e : (O ++ mk [32] ++ tx).size = O.size + 1 + tx.size := by rw [ByteArray.size_append, ByteArray.size_append]; rfl
      rw [e]; omega
     have Hs0 := Lib.hid hs0
     have Hs1 := Lib.hid hs1
     clear hs0 hs1
     by_cases hk : k = 3
     ·have h0 : 0 < k := by omega
      have e3 : ((k : Int) == 3) = true := by simp; omega
      have f5 : ((F : Int) == 5) = false := by rw [beq_eq_false_iff_ne]; omega
      have e5 : ((k : Int) == 5) = false := by rw [beq_eq_false_iff_ne]; omega
      have e6 : ((k : Int) == 6) = false := by rw [beq_eq_false_iff_ne]; omega
      have Hn := Lib.hid (Hn1.out h0)
      clear Hn0 Hn1 h6
      clear hk
      go_wp2_with fail
      go_at_call 37
      refine (HCX.out _ HXX.out).mono ?_
      rintro e w4 ⟨rfl, x4⟩
      have X4 := Lib.hid (Hx.out.trans x4)
      clear x4
      go_wp2_with fail
      go_roundw
      case rel => exact ⟨k + 1, _, by omega, by go_num, rfl, Hn, Hs1.out, X4⟩
      case measure => simp [RowKit.intOf] <;> omega
     ·by_cases hk3 : k = 5
      ·have hk := hk3
       clear hk3
       have h0 : 0 < k := by omega
       have e3 : ((k : Int) == 3) = false := by rw [beq_eq_false_iff_ne]; omega
       have e5 : ((k : Int) == 5) = true := by simp; omega
       have f3 : ((F : Int) == 3) = false := by rw [beq_eq_false_iff_ne]; omega
       have e6 : ((k : Int) == 6) = false := by rw [beq_eq_false_iff_ne]; omega
       have Hn := Lib.hid (Hn1.out h0)
       clear Hn0 Hn1 h6
       clear hk
       go_wp2_with fail
       go_at_call 37
       refine (HCX.out _ HXX.out).mono ?_
       rintro e w4 ⟨rfl, x4⟩
       have X4 := Lib.hid (Hx.out.trans x4)
       clear x4
       go_wp2_with fail
       go_roundw
       case rel => exact ⟨k + 1, _, by omega, by go_num, rfl, Hn, Hs1.out, X4⟩
       case measure => simp [RowKit.intOf] <;> omega
      ·by_cases hk6 : k = 6
       ·have hk := hk6
        clear hk6
        have h0 : 0 < k := by omega
        have e3 : ((k : Int) == 3) = false := by rw [beq_eq_false_iff_ne]; omega
        have e5 : ((k : Int) == 5) = false := by rw [beq_eq_false_iff_ne]; omega
        have e6 : ((k : Int) == 6) = true := by simp; omega
        have hs := h6 hk
        subst hs
        have Hn := Lib.hid (Hn1.out h0)
        clear Hn0 Hn1 h6
        clear hk
        go_wp2_with fail
        go_at_call 37
        refine (HCX.out _ HXX.out).mono ?_
        rintro e w4 ⟨rfl, x4⟩
        have X4 := Lib.hid (Hx.out.trans x4)
        clear x4
        go_wp2_with fail
        go_roundw
        case rel => exact ⟨k + 1, _, by omega, by go_num, rfl, Hn, Hs1.out, X4⟩
        case measure => simp [RowKit.intOf] <;> omega
       ·by_cases hk0 : k = 0
        ·have hk := hk0
         clear hk0
         have h0 : ¬ 0 < k := by omega
         have e3 : ((k : Int) == 3) = false := by rw [beq_eq_false_iff_ne]; omega
         have e5 : ((k : Int) == 5) = false := by rw [beq_eq_false_iff_ne]; omega
         have e6 : ((k : Int) == 6) = false := by rw [beq_eq_false_iff_ne]; omega
         have Hn := Lib.hid (Hn0.out h0)
         clear Hn0 Hn1 h6
         clear hk
         go_wp2_with fail
         go_at_call 37
         refine (HCX.out _ HXX.out).mono ?_
         rintro e w4 ⟨rfl, x4⟩
         have X4 := Lib.hid (Hx.out.trans x4)
         clear x4
         go_wp2_with fail
         go_roundw
         case rel => exact ⟨k + 1, _, by omega, by go_num, rfl, Hn, Hs0.out, X4⟩
         case measure => simp [RowKit.intOf] <;> omega
        ·have h0 : 0 < k := by omega
         have e3 : ((k : Int) == 3) = false := by rw [beq_eq_false_iff_ne]; omega
         have e5 : ((k : Int) == 5) = false := by rw [beq_eq_false_iff_ne]; omega
         have e6 : ((k : Int) == 6) = false := by rw [beq_eq_false_iff_ne]; omega
         have Hn := Lib.hid (Hn1.out h0)
         clear Hn0 Hn1 h6
         clear hk
         go_wp2_with fail
         go_at_call 37
         refine (HCX.out _ HXX.out).mono ?_
         rintro e w4 ⟨rfl, x4⟩
         have X4 := Lib.hid (Hx.out.trans x4)
         clear x4
         go_wp2_with fail
         go_roundw
         case rel => exact ⟨k + 1, _, by omega, by go_num, rfl, Hn, Hs1.out, X4⟩
         case measure => simp [RowKit.intOf] <;> omega
  ·have Hk : Hid (k = L) := by show _ = _; omega
   have e6 : k = 6 → six = true := by
    intro e
    have hl := HLS.out
    rcases six with _ | _
    ·rw [if_neg (by decide)] at hl; omega
    ·rfl
   have hL67 : L = 6 ∨ L = 7 := by have hl := HLS.out; split at hl <;> omega
   have HE6 := Lib.hid e6
   clear e6
   have hkk : k = 6 ∨ k = 7 := by have := Hk.out; omega
   rcases hkk with rfl | rfl
   ·have hs := HE6.out rfl
    subst hs
    go_wp2_with fail
    go_ret2
    exact ⟨.inl ⟨_, HW2.out, by rw [← Hk.out, ← HO2.out]; rfl⟩, Xw3.out.trans Hx.out⟩
   ·go_wp2_with fail
    go_ret2
    exact ⟨.inl ⟨_, HW2.out, by rw [← Hk.out, ← HO2.out]; rfl⟩, Xw3.out.trans Hx.out⟩
set_option maxHeartbeats 6400000 in
set_option maxRecDepth 1000000 in
theorem wrong5 (c : CronV) (hO : CronIn c) (F : Nat) (hF : F < 6) (hr : c.rightB = true) (w : World) (hI : CronItems w c) (hE : Env w) :
 Calls Tryz.prog 33 #[.agg c.cells, .int .i64 F, .int .i64 5] w (WrongPost w (wrongO c F 5)) := by
 have HC : Hid (CronAt (w.alloc (.cells c.cells 27)) w.heap.size c) := cron_alloc w c
 have HX : Hid (Ext w (w.alloc (.cells c.cells 27))) := Ext.alloc _ _
 have hcw := HC.out.whole
 have HI := Lib.hid hI
 have HO := Lib.hid hO
 have HRB := Lib.hid hr
 have HRI := Lib.hid (right_is hr)
 have HW := Lib.hid (wrong_go (how := 5) hr hF)
 generalize hR : wrongO c F 5 = R at *
 unfold WrongPost
 have h0F : ¬ ((F : Int) < 0) := by omega
 have h5F : ¬ ((5 : Int) < F) := by omega
 clear hR hI hO
 go_enter Tryz.func33, Tryz.ntmps33
 go_wp2_with fail
 go_at_call 13
 refine (right_cron c HO.out _ (HI.out.ext HX.out) (hE.ext HX.out)).mono ?_
 rintro e w1 ⟨rfl, x1⟩
 rw [HRB.out]
 have C1 := Lib.hid (HC.out.ext x1)
 have X1 := Lib.hid (HX.out.trans x1)
 clear x1 hcw hr
 obtain ⟨PL, hPL⟩ : ∃ PL : List UInt8, PL = itoa (leastF F + 2) ++ 45 :: itoa (leastF F + 1) := ⟨_, rfl⟩
 have HPL := Lib.hid hPL
 have HW2 : Hid (R = some (joinL 32 (c.bents F PL c.last))) := by
  show _ = _
  rw [HW.out, hPL]
  have ht : wrongTab F 5 = some (F, itoa (leastF F + 2) ++ 45 :: itoa (leastF F + 1)) := by
   rcases (show F = 0 ∨ F = 1 ∨ F = 2 ∨ F = 3 ∨ F = 4 ∨ F = 5 by omega) with rfl | rfl | rfl | rfl | rfl | rfl <;> decide +kernel
  rw [if_neg (by decide), if_neg (by decide), if_neg (by decide), if_neg (by decide), if_neg (by decide)]
  show Option.map _ (wrongTab F 5) = _
  rw [ht]; rfl
 have HPS : Hid (PL.length ≤ 5) := by
  show _ ≤ _
  rw [hPL]
  rcases (show F = 0 ∨ F = 1 ∨ F = 2 ∨ F = 3 ∨ F = 4 ∨ F = 5 by omega) with rfl | rfl | rfl | rfl | rfl | rfl <;> decide +kernel
 clear hPL HW
 have Cw1 := C1
 have Xw1 := X1
 have HIT : Hid (∀ (n : Int) W, Joins.In64 n → Ext w W → Calls Tryz.prog 56 #[.int .i64 n] W fun e W' => e = .returned (.string (mk (itoa n))) ∧ Ext W W') := fun n W hn hW => itoa_any n hn W (hE.ext hW)
 have hm0 : leastF F = 0 ∨ leastF F = 1 := by
  rcases (show F = 0 ∨ F = 1 ∨ F = 2 ∨ F = 3 ∨ F = 4 ∨ F = 5 by omega) with rfl | rfl | rfl | rfl | rfl | rfl <;> decide
 go_wp2_with fail
 go_at_call 58
 refine (least_any F (by omega) _).mono ?_
 rintro e w2 ⟨rfl, xw2⟩
 have Cw2 := Lib.hid (Cw1.out.ext xw2)
 have Xw2 := Lib.hid (Xw1.out.trans xw2)
 clear xw2
 have HLE : Hid (∀ W, Calls Tryz.prog 58 #[.int .i64 F] W fun e W' => e = .returned (.int .i64 (leastF F)) ∧ Ext W W') := fun W => least_any F (by omega) W
 generalize leastF F = m at *
 have hm1 : 0 ≤ m := by omega
 have hm2 : m ≤ 1 := by omega
 have sz0 : (mk (itoa (m + 2))).size ≤ 21 := by
  rw [size_mk]
  exact itoa_len _ (by constructor <;> omega)
 have sz1 : (mk (itoa (m + 1))).size ≤ 21 := by
  rw [size_mk]
  exact itoa_len _ (by constructor <;> omega)
 replace hm0 := Lib.hid hm0
 go_wp2_with fail
 go_at_call 56
 refine (HIT.out (m + 2) _ (by constructor <;> omega) Xw2.out).mono ?_
 rintro e w3 ⟨rfl, xw3⟩
 have Cw3 := Lib.hid (Cw2.out.ext xw3)
 have Xw3 := Lib.hid (Xw2.out.trans xw3)
 clear xw3
 go_wp2_with fail
 go_at_call 58
 refine (HLE.out _).mono ?_
 rintro e w4 ⟨rfl, xw4⟩
 have Cw4 := Lib.hid (Cw3.out.ext xw4)
 have Xw4 := Lib.hid (Xw3.out.trans xw4)
 clear xw4
 go_wp2_with fail
 go_at_call 56
 refine (HIT.out (m + 1) _ (by constructor <;> omega) Xw4.out).mono ?_
 rintro e w5 ⟨rfl, xw5⟩
 have Cw5 := Lib.hid (Cw4.out.ext xw5)
 have Xw5 := Lib.hid (Xw4.out.trans xw5)
 clear xw5
 have HOK : Hid (CronOk c) := cron_ok HO.out HRI.out.all
 have HQB : Hid ((mk (itoa (m + 2)) ++ mk [45] ++ mk (itoa (m + 1))) = mk PL) := by
  show _ = _
  rw [HPL.out, mk_append, mk_append]; simp
 have hqbs : ((mk (itoa (m + 2)) ++ mk [45] ++ mk (itoa (m + 1)))).size ≤ 5 := by rw [HQB.out, size_mk]; exact HPS.out
 obtain ⟨L, hL⟩ : ∃ L, L = c.last := ⟨_, rfl⟩
 have hL7 : L ≤ 7 := by rw [hL]; exact (last_le c).1
 obtain ⟨six, hsix⟩ : ∃ six, six = c.six := ⟨_, rfl⟩
 have HLS : Hid (L = if six then 6 else 7) := by show _ = _; rw [hL, hsix]; rfl
 have H42 : Hid (w5.cell? ⟨w.heap.size, 42, none⟩ = some (.bool six)) := by rw [hsix]; exact Cw5.out.six
 rw [← hL] at HW2
 clear hL hsix
 go_wp2_with fail
 go_loopw [10, 11] (fun o i wr => ∃ (k : Nat) (O : ByteArray), k ≤ L ∧ i = .int .i64 k ∧ o = .string O ∧ Hid (O = mk (joinL 32 (c.bents F PL k))) ∧ O.size ≤ k * 431 ∧ Hid (Ext w5 wr))
  (fun _ i _ => 7 - (RowKit.intOf i).toNat)
 case atStart => exact ⟨0, ⟨#[]⟩, Nat.zero_le _, rfl, rfl, rfl, Nat.zero_le _, Ext.refl _⟩
 case round =>
  obtain ⟨k, O, hk, rfl, rfl, HO2, hsz, Hx⟩ := hrel
  have c42 : wr.cell? ⟨w.heap.size, 42, none⟩ = some (.bool six) := Hx.out.cell H42.out
  by_cases hlt : k < L
  ·have h7 : k < 7 := by omega
   have h6 : k = 6 → six = false := by
    intro e
    have hl := HLS.out
    cases six
    ·rfl
    ·rw [if_pos rfl] at hl; omega
   have HJ : Hid (joinL 32 (c.bents F PL (k + 1)) = if 0 < k then joinL 32 (c.bents F PL k) ++ 32 :: c.bent F PL k else c.bent F PL k) := bents_join c F PL k
   by_cases hkF : k = F
   ·have HB : Hid (c.bent F PL k = PL) := by show _ = _; unfold CronV.bent; rw [if_pos hkF]
    have eF : ((k : Int) == (F : Int)) = true := by simp; omega
    have e6 : ((k : Int) == 6) = false := by rw [beq_eq_false_iff_ne]; omega
    clear h6
    by_cases h0 : 0 < k
    ·have Hn : Hid (O ++ mk [32] ++ (mk (itoa (m + 2)) ++ mk [45] ++ mk (itoa (m + 1))) = mk (joinL 32 (c.bents F PL (k + 1)))) := by
      show _ = _
      rw [HJ.out, if_pos h0, HO2.out, HB.out, HQB.out, mk_append, mk_append]
      simp
     have hsn : (O ++ mk [32] ++ (mk (itoa (m + 2)) ++ mk [45] ++ mk (itoa (m + 1)))).size ≤ (k + 1) * 431 := by
      have e : (O ++ mk [32] ++ (mk (itoa (m + 2)) ++ mk [45] ++ mk (itoa (m + 1)))).size = O.size + 1 + (mk (itoa (m + 2)) ++ mk [45] ++ mk (itoa (m + 1))).size := by rw [ByteArray.size_append, ByteArray.size_append]; rfl
      rw [e]; omega
     clear hkF
     go_wp2_with fail
     go_roundw
     case rel => exact ⟨k + 1, _, by omega, by go_num, rfl, Hn, hsn, Hx⟩
     case measure => simp [RowKit.intOf] <;> omega
    ·have hk0 : k = 0 := by omega
     have Hn : Hid (O ++ (mk (itoa (m + 2)) ++ mk [45] ++ mk (itoa (m + 1))) = mk (joinL 32 (c.bents F PL (k + 1)))) := by
      show _ = _
      rw [HJ.out, if_neg h0, HO2.out, HB.out, HQB.out, mk_append, hk0]
      rfl
     have hsn : (O ++ (mk (itoa (m + 2)) ++ mk [45] ++ mk (itoa (m + 1)))).size ≤ (k + 1) * 431 := by rw [ByteArray.size_append]; omega
     clear hkF
     subst hk0
     go_wp2_with fail
     go_roundw
     case rel => exact ⟨1, _, by omega, by go_num, rfl, Hn, hsn, Hx⟩
     case measure => simp [RowKit.intOf] <;> omega
   ·have eF : ((k : Int) == (F : Int)) = false := by rw [beq_eq_false_iff_ne]; omega
    by_cases hd : (k = 3 ∧ F = 5) ∨ (k = 5 ∧ F = 3)
    ·have HB : Hid (c.bent F PL k = [63]) := by show _ = _; unfold CronV.bent; rw [if_neg hkF, if_pos hd]
     have e6 : ((k : Int) == 6) = false := by rw [beq_eq_false_iff_ne]; omega
     have h0 : 0 < k := by omega
     have Hn : Hid (O ++ mk [32] ++ mk [63] = mk (joinL 32 (c.bents F PL (k + 1)))) := by
      show _ = _
      rw [HJ.out, if_pos h0, HO2.out, HB.out, mk_append, mk_append]
      simp
     have hsn : (O ++ mk [32] ++ mk [63]).size ≤ (k + 1) * 431 := by
      have e : (O ++ mk [32] ++ mk [63]).size = O.size + 1 + 1 := by rw [ByteArray.size_append, ByteArray.size_append]; rfl
      rw [e]; omega
     clear h6
     rcases hd with ⟨hk, hq⟩ | ⟨hk, hq⟩
     ·have e3 : ((k : Int) == 3) = true := by simp; omega
      have f5 : ((F : Int) == 5) = true := by simp; omega
      clear hk hq
      go_wp2_with fail
      go_roundw
      case rel => exact ⟨k + 1, _, by omega, by go_num, rfl, Hn, hsn, Hx⟩
      case measure => simp [RowKit.intOf] <;> omega
     ·have e3 : ((k : Int) == 3) = false := by rw [beq_eq_false_iff_ne]; omega
      have e5 : ((k : Int) == 5) = true := by simp; omega
      have f3 : ((F : Int) == 3) = true := by simp; omega
      clear hk hq
      go_wp2_with fail
      go_roundw
      case rel => exact ⟨k + 1, _, by omega, by go_num, rfl, Hn, hsn, Hx⟩
      case measure => simp [RowKit.intOf] <;> omega
    ·have HB : Hid (c.bent F PL k = (c.p k).text k) := by show _ = _; unfold CronV.bent; rw [if_neg hkF, if_neg hd]
     have CA := Cw5.out.ext Hx.out
     have d0 := CA.k k h7
     have d1 := CA.a k h7
     have d2 := CA.b k h7
     have d3 := CA.s k h7
     have d4 := CA.n k h7
     have d5 := CA.it k h7
     obtain ⟨tx, htx⟩ : ∃ tx, tx = mk ((c.p k).text k) := ⟨_, rfl⟩
     have sx : tx.size ≤ 430 := by rw [htx, size_mk]; exact part_len (HOK.out.part k h7)
     have HCX : Hid (∀ W, Ext w W → Calls Tryz.prog 37 #[.int .i64 k, .agg #[.int .i64 (c.p k).k, .int .i64 (c.p k).a, .int .i64 (c.p k).b, .int .i64 (c.p k).s, .int .i64 (c.p k).n, .slice (c.p k).ia (c.p k).items.length (c.p k).cap]] W fun e w' => e = .returned (.string tx) ∧ Ext W w') := fun W hW => by
      rw [htx]; exact text_part k h7 (c.p k) (HOK.out.part k h7) W ((HI.out k h7).ext hW) (hE.ext hW)
     have HTX := Lib.hid htx
     have HXX : Hid (Ext w wr) := Xw5.out.trans Hx.out
     generalize c.p k = pk at d0 d1 d2 d3 d4 d5 HCX HTX HB
     clear htx CA
     obtain ⟨q0, q1, q2, q3, q4, q5, q6, q7⟩ := pk
     obtain ⟨L8, hL8⟩ : ∃ L8, L8 = q7.length := ⟨_, rfl⟩
     simp only at d0 d1 d2 d3 d4 d5 HCX
     rw [← hL8] at d5 HCX
     clear hL8
     have Hn0 : Hid (¬ 0 < k → O ++ tx = mk (joinL 32 (c.bents F PL (k + 1)))) := by
      intro h0
      have hk0 : k = 0 := by omega
      rw [HJ.out, if_neg h0, HO2.out, HB.out, HTX.out, mk_append, hk0]
      rfl
     have Hn1 : Hid (0 < k → O ++ mk [32] ++ tx = mk (joinL 32 (c.bents F PL (k + 1)))) := by
      intro h0
      rw [HJ.out, if_pos h0, HO2.out, HB.out, HTX.out, mk_append, mk_append]
      simp
     have hs0 : (O ++ tx).size ≤ (k + 1) * 431 := by rw [ByteArray.size_append]; omega
     have hs1 : (O ++ mk [32] ++ tx).size ≤ (k + 1) * 431 := by
      have e : (O ++ mk [32] ++ tx).size = O.size + 1 + tx.size := by rw [ByteArray.size_append, ByteArray.size_append]; rfl
      rw [e]; omega
     have Hs0 := Lib.hid hs0
     have Hs1 := Lib.hid hs1
     clear hs0 hs1
     by_cases hk : k = 3
     ·have h0 : 0 < k := by omega
      have e3 : ((k : Int) == 3) = true := by simp; omega
      have f5 : ((F : Int) == 5) = false := by rw [beq_eq_false_iff_ne]; omega
      have e5 : ((k : Int) == 5) = false := by rw [beq_eq_false_iff_ne]; omega
      have e6 : ((k : Int) == 6) = false := by rw [beq_eq_false_iff_ne]; omega
      have Hn := Lib.hid (Hn1.out h0)
      clear Hn0 Hn1 h6
      clear hk
      go_wp2_with fail
      go_at_call 37
      refine (HCX.out _ HXX.out).mono ?_
      rintro e w4 ⟨rfl, x4⟩
      have X4 := Lib.hid (Hx.out.trans x4)
      clear x4
      go_wp2_with fail
      go_roundw
      case rel => exact ⟨k + 1, _, by omega, by go_num, rfl, Hn, Hs1.out, X4⟩
      case measure => simp [RowKit.intOf] <;> omega
     ·by_cases hk3 : k = 5
      ·have hk := hk3
       clear hk3
       have h0 : 0 < k := by omega
       have e3 : ((k : Int) == 3) = false := by rw [beq_eq_false_iff_ne]; omega
       have e5 : ((k : Int) == 5) = true := by simp; omega
       have f3 : ((F : Int) == 3) = false := by rw [beq_eq_false_iff_ne]; omega
       have e6 : ((k : Int) == 6) = false := by rw [beq_eq_false_iff_ne]; omega
       have Hn := Lib.hid (Hn1.out h0)
       clear Hn0 Hn1 h6
       clear hk
       go_wp2_with fail
       go_at_call 37
       refine (HCX.out _ HXX.out).mono ?_
       rintro e w4 ⟨rfl, x4⟩
       have X4 := Lib.hid (Hx.out.trans x4)
       clear x4
       go_wp2_with fail
       go_roundw
       case rel => exact ⟨k + 1, _, by omega, by go_num, rfl, Hn, Hs1.out, X4⟩
       case measure => simp [RowKit.intOf] <;> omega
      ·by_cases hk6 : k = 6
       ·have hk := hk6
        clear hk6
        have h0 : 0 < k := by omega
        have e3 : ((k : Int) == 3) = false := by rw [beq_eq_false_iff_ne]; omega
        have e5 : ((k : Int) == 5) = false := by rw [beq_eq_false_iff_ne]; omega
        have e6 : ((k : Int) == 6) = true := by simp; omega
        have hs := h6 hk
        subst hs
        have Hn := Lib.hid (Hn1.out h0)
        clear Hn0 Hn1 h6
        clear hk
        go_wp2_with fail
        go_at_call 37
        refine (HCX.out _ HXX.out).mono ?_
        rintro e w4 ⟨rfl, x4⟩
        have X4 := Lib.hid (Hx.out.trans x4)
        clear x4
        go_wp2_with fail
        go_roundw
        case rel => exact ⟨k + 1, _, by omega, by go_num, rfl, Hn, Hs1.out, X4⟩
        case measure => simp [RowKit.intOf] <;> omega
       ·by_cases hk0 : k = 0
        ·have hk := hk0
         clear hk0
         have h0 : ¬ 0 < k := by omega
         have e3 : ((k : Int) == 3) = false := by rw [beq_eq_false_iff_ne]; omega
         have e5 : ((k : Int) == 5) = false := by rw [beq_eq_false_iff_ne]; omega
         have e6 : ((k : Int) == 6) = false := by rw [beq_eq_false_iff_ne]; omega
         have Hn := Lib.hid (Hn0.out h0)
         clear Hn0 Hn1 h6
         clear hk
         go_wp2_with fail
         go_at_call 37
         refine (HCX.out _ HXX.out).mono ?_
         rintro e w4 ⟨rfl, x4⟩
         have X4 := Lib.hid (Hx.out.trans x4)
         clear x4
         go_wp2_with fail
         go_roundw
         case rel => exact ⟨k + 1, _, by omega, by go_num, rfl, Hn, Hs0.out, X4⟩
         case measure => simp [RowKit.intOf] <;> omega
        ·have h0 : 0 < k := by omega
         have e3 : ((k : Int) == 3) = false := by rw [beq_eq_false_iff_ne]; omega
         have e5 : ((k : Int) == 5) = false := by rw [beq_eq_false_iff_ne]; omega
         have e6 : ((k : Int) == 6) = false := by rw [beq_eq_false_iff_ne]; omega
         have Hn := Lib.hid (Hn1.out h0)
         clear Hn0 Hn1 h6
         clear hk
         go_wp2_with fail
         go_at_call 37
         refine (HCX.out _ HXX.out).mono ?_
         rintro e w4 ⟨rfl, x4⟩
         have X4 := Lib.hid (Hx.out.trans x4)
         clear x4
         go_wp2_with fail
         go_roundw
         case rel => exact ⟨k + 1, _, by omega, by go_num, rfl, Hn, Hs1.out, X4⟩
         case measure => simp [RowKit.intOf] <;> omega
  ·have Hk : Hid (k = L) := by show _ = _; omega
   have e6 : k = 6 → six = true := by
    intro e
    have hl := HLS.out
    rcases six with _ | _
    ·rw [if_neg (by decide)] at hl; omega
    ·rfl
   have hL67 : L = 6 ∨ L = 7 := by have hl := HLS.out; split at hl <;> omega
   have HE6 := Lib.hid e6
   clear e6
   have hkk : k = 6 ∨ k = 7 := by have := Hk.out; omega
   rcases hkk with rfl | rfl
   ·have hs := HE6.out rfl
    subst hs
    go_wp2_with fail
    go_ret2
    exact ⟨.inl ⟨_, HW2.out, by rw [← Hk.out, ← HO2.out]; rfl⟩, Xw5.out.trans Hx.out⟩
   ·go_wp2_with fail
    go_ret2
    exact ⟨.inl ⟨_, HW2.out, by rw [← Hk.out, ← HO2.out]; rfl⟩, Xw5.out.trans Hx.out⟩
set_option maxHeartbeats 6400000 in
set_option maxRecDepth 1000000 in
theorem wrong7 (c : CronV) (hO : CronIn c) (F : Nat) (hF : F < 6) (hr : c.rightB = true) (w : World) (hI : CronItems w c) (hE : Env w) :
 Calls Tryz.prog 33 #[.agg c.cells, .int .i64 F, .int .i64 7] w (WrongPost w (wrongO c F 7)) := by
 have HC : Hid (CronAt (w.alloc (.cells c.cells 27)) w.heap.size c) := cron_alloc w c
 have HX : Hid (Ext w (w.alloc (.cells c.cells 27))) := Ext.alloc _ _
 have hcw := HC.out.whole
 have HI := Lib.hid hI
 have HO := Lib.hid hO
 have HRB := Lib.hid hr
 have HRI := Lib.hid (right_is hr)
 have HW := Lib.hid (wrong_go (how := 7) hr hF)
 generalize hR : wrongO c F 7 = R at *
 unfold WrongPost
 have h0F : ¬ ((F : Int) < 0) := by omega
 have h5F : ¬ ((5 : Int) < F) := by omega
 clear hR hI hO
 go_enter Tryz.func33, Tryz.ntmps33
 go_wp2_with fail
 go_at_call 13
 refine (right_cron c HO.out _ (HI.out.ext HX.out) (hE.ext HX.out)).mono ?_
 rintro e w1 ⟨rfl, x1⟩
 rw [HRB.out]
 have C1 := Lib.hid (HC.out.ext x1)
 have X1 := Lib.hid (HX.out.trans x1)
 clear x1 hcw hr
 obtain ⟨PL, hPL⟩ : ∃ PL : List UInt8, PL = 42 :: 47 :: itoa (mostF F + 1) := ⟨_, rfl⟩
 have HPL := Lib.hid hPL
 have HW2 : Hid (R = some (joinL 32 (c.bents F PL c.last))) := by
  show _ = _
  rw [HW.out, hPL]
  have ht : wrongTab F 7 = some (F, 42 :: 47 :: itoa (mostF F + 1)) := by
   rcases (show F = 0 ∨ F = 1 ∨ F = 2 ∨ F = 3 ∨ F = 4 ∨ F = 5 by omega) with rfl | rfl | rfl | rfl | rfl | rfl <;> decide +kernel
  rw [if_neg (by decide), if_neg (by decide), if_neg (by decide), if_neg (by decide), if_neg (by decide)]
  show Option.map _ (wrongTab F 7) = _
  rw [ht]; rfl
 have HPS : Hid (PL.length ≤ 5) := by
  show _ ≤ _
  rw [hPL]
  rcases (show F = 0 ∨ F = 1 ∨ F = 2 ∨ F = 3 ∨ F = 4 ∨ F = 5 by omega) with rfl | rfl | rfl | rfl | rfl | rfl <;> decide +kernel
 clear hPL HW
 have Cw1 := C1
 have Xw1 := X1
 have HIT : Hid (∀ (n : Int) W, Joins.In64 n → Ext w W → Calls Tryz.prog 56 #[.int .i64 n] W fun e W' => e = .returned (.string (mk (itoa n))) ∧ Ext W W') := fun n W hn hW => itoa_any n hn W (hE.ext hW)
 have hm0 : 0 ≤ mostF F ∧ mostF F ≤ 60 := by
  rcases (show F = 0 ∨ F = 1 ∨ F = 2 ∨ F = 3 ∨ F = 4 ∨ F = 5 by omega) with rfl | rfl | rfl | rfl | rfl | rfl <;> decide
 go_wp2_with fail
 go_at_call 57
 refine (most_any F (by omega) _).mono ?_
 rintro e w2 ⟨rfl, xw2⟩
 have Cw2 := Lib.hid (Cw1.out.ext xw2)
 have Xw2 := Lib.hid (Xw1.out.trans xw2)
 clear xw2
 generalize mostF F = m at *
 obtain ⟨hm1, hm2⟩ := hm0
 have sz0 : (mk (itoa (m + 1))).size ≤ 25 := by rw [size_mk]; have := itoa_len (m + 1) (by constructor <;> omega); omega
 go_wp2_with fail
 go_at_call 56
 refine (HIT.out (m + 1) _ (by constructor <;> omega) Xw2.out).mono ?_
 rintro e w3 ⟨rfl, xw3⟩
 have Cw3 := Lib.hid (Cw2.out.ext xw3)
 have Xw3 := Lib.hid (Xw2.out.trans xw3)
 clear xw3
 have HOK : Hid (CronOk c) := cron_ok HO.out HRI.out.all
 have HQB : Hid ((mk [42, 47] ++ mk (itoa (m + 1))) = mk PL) := by
  show _ = _
  rw [HPL.out, mk_append]; rfl
 have hqbs : ((mk [42, 47] ++ mk (itoa (m + 1)))).size ≤ 5 := by rw [HQB.out, size_mk]; exact HPS.out
 obtain ⟨L, hL⟩ : ∃ L, L = c.last := ⟨_, rfl⟩
 have hL7 : L ≤ 7 := by rw [hL]; exact (last_le c).1
 obtain ⟨six, hsix⟩ : ∃ six, six = c.six := ⟨_, rfl⟩
 have HLS : Hid (L = if six then 6 else 7) := by show _ = _; rw [hL, hsix]; rfl
 have H42 : Hid (w3.cell? ⟨w.heap.size, 42, none⟩ = some (.bool six)) := by rw [hsix]; exact Cw3.out.six
 rw [← hL] at HW2
 clear hL hsix
 go_wp2_with fail
 go_loopw [10, 11] (fun o i wr => ∃ (k : Nat) (O : ByteArray), k ≤ L ∧ i = .int .i64 k ∧ o = .string O ∧ Hid (O = mk (joinL 32 (c.bents F PL k))) ∧ O.size ≤ k * 431 ∧ Hid (Ext w3 wr))
  (fun _ i _ => 7 - (RowKit.intOf i).toNat)
 case atStart => exact ⟨0, ⟨#[]⟩, Nat.zero_le _, rfl, rfl, rfl, Nat.zero_le _, Ext.refl _⟩
 case round =>
  obtain ⟨k, O, hk, rfl, rfl, HO2, hsz, Hx⟩ := hrel
  have c42 : wr.cell? ⟨w.heap.size, 42, none⟩ = some (.bool six) := Hx.out.cell H42.out
  by_cases hlt : k < L
  ·have h7 : k < 7 := by omega
   have h6 : k = 6 → six = false := by
    intro e
    have hl := HLS.out
    cases six
    ·rfl
    ·rw [if_pos rfl] at hl; omega
   have HJ : Hid (joinL 32 (c.bents F PL (k + 1)) = if 0 < k then joinL 32 (c.bents F PL k) ++ 32 :: c.bent F PL k else c.bent F PL k) := bents_join c F PL k
   by_cases hkF : k = F
   ·have HB : Hid (c.bent F PL k = PL) := by show _ = _; unfold CronV.bent; rw [if_pos hkF]
    have eF : ((k : Int) == (F : Int)) = true := by simp; omega
    have e6 : ((k : Int) == 6) = false := by rw [beq_eq_false_iff_ne]; omega
    clear h6
    by_cases h0 : 0 < k
    ·have Hn : Hid (O ++ mk [32] ++ (mk [42, 47] ++ mk (itoa (m + 1))) = mk (joinL 32 (c.bents F PL (k + 1)))) := by
      show _ = _
      rw [HJ.out, if_pos h0, HO2.out, HB.out, HQB.out, mk_append, mk_append]
      simp
     have hsn : (O ++ mk [32] ++ (mk [42, 47] ++ mk (itoa (m + 1)))).size ≤ (k + 1) * 431 := by
      have e : (O ++ mk [32] ++ (mk [42, 47] ++ mk (itoa (m + 1)))).size = O.size + 1 + (mk [42, 47] ++ mk (itoa (m + 1))).size := by rw [ByteArray.size_append, ByteArray.size_append]; rfl
      rw [e]; omega
     clear hkF
     go_wp2_with fail
     go_roundw
     case rel => exact ⟨k + 1, _, by omega, by go_num, rfl, Hn, hsn, Hx⟩
     case measure => simp [RowKit.intOf] <;> omega
    ·have hk0 : k = 0 := by omega
     have Hn : Hid (O ++ (mk [42, 47] ++ mk (itoa (m + 1))) = mk (joinL 32 (c.bents F PL (k + 1)))) := by
      show _ = _
      rw [HJ.out, if_neg h0, HO2.out, HB.out, HQB.out, mk_append, hk0]
      rfl
     have hsn : (O ++ (mk [42, 47] ++ mk (itoa (m + 1)))).size ≤ (k + 1) * 431 := by rw [ByteArray.size_append]; omega
     clear hkF
     subst hk0
     go_wp2_with fail
     go_roundw
     case rel => exact ⟨1, _, by omega, by go_num, rfl, Hn, hsn, Hx⟩
     case measure => simp [RowKit.intOf] <;> omega
   ·have eF : ((k : Int) == (F : Int)) = false := by rw [beq_eq_false_iff_ne]; omega
    by_cases hd : (k = 3 ∧ F = 5) ∨ (k = 5 ∧ F = 3)
    ·have HB : Hid (c.bent F PL k = [63]) := by show _ = _; unfold CronV.bent; rw [if_neg hkF, if_pos hd]
     have e6 : ((k : Int) == 6) = false := by rw [beq_eq_false_iff_ne]; omega
     have h0 : 0 < k := by omega
     have Hn : Hid (O ++ mk [32] ++ mk [63] = mk (joinL 32 (c.bents F PL (k + 1)))) := by
      show _ = _
      rw [HJ.out, if_pos h0, HO2.out, HB.out, mk_append, mk_append]
      simp
     have hsn : (O ++ mk [32] ++ mk [63]).size ≤ (k + 1) * 431 := by
      have e : (O ++ mk [32] ++ mk [63]).size = O.size + 1 + 1 := by rw [ByteArray.size_append, ByteArray.size_append]; rfl
      rw [e]; omega
     clear h6
     rcases hd with ⟨hk, hq⟩ | ⟨hk, hq⟩
     ·have e3 : ((k : Int) == 3) = true := by simp; omega
      have f5 : ((F : Int) == 5) = true := by simp; omega
      clear hk hq
      go_wp2_with fail
      go_roundw
      case rel => exact ⟨k + 1, _, by omega, by go_num, rfl, Hn, hsn, Hx⟩
      case measure => simp [RowKit.intOf] <;> omega
     ·have e3 : ((k : Int) == 3) = false := by rw [beq_eq_false_iff_ne]; omega
      have e5 : ((k : Int) == 5) = true := by simp; omega
      have f3 : ((F : Int) == 3) = true := by simp; omega
      clear hk hq
      go_wp2_with fail
      go_roundw
      case rel => exact ⟨k + 1, _, by omega, by go_num, rfl, Hn, hsn, Hx⟩
      case measure => simp [RowKit.intOf] <;> omega
    ·have HB : Hid (c.bent F PL k = (c.p k).text k) := by show _ = _; unfold CronV.bent; rw [if_neg hkF, if_neg hd]
     have CA := Cw3.out.ext Hx.out
     have d0 := CA.k k h7
     have d1 := CA.a k h7
     have d2 := CA.b k h7
     have d3 := CA.s k h7
     have d4 := CA.n k h7
     have d5 := CA.it k h7
     obtain ⟨tx, htx⟩ : ∃ tx, tx = mk ((c.p k).text k) := ⟨_, rfl⟩
     have sx : tx.size ≤ 430 := by rw [htx, size_mk]; exact part_len (HOK.out.part k h7)
     have HCX : Hid (∀ W, Ext w W → Calls Tryz.prog 37 #[.int .i64 k, .agg #[.int .i64 (c.p k).k, .int .i64 (c.p k).a, .int .i64 (c.p k).b, .int .i64 (c.p k).s, .int .i64 (c.p k).n, .slice (c.p k).ia (c.p k).items.length (c.p k).cap]] W fun e w' => e = .returned (.string tx) ∧ Ext W w') := fun W hW => by
      rw [htx]; exact text_part k h7 (c.p k) (HOK.out.part k h7) W ((HI.out k h7).ext hW) (hE.ext hW)
     have HTX := Lib.hid htx
     have HXX : Hid (Ext w wr) := Xw3.out.trans Hx.out
     generalize c.p k = pk at d0 d1 d2 d3 d4 d5 HCX HTX HB
     clear htx CA
     obtain ⟨q0, q1, q2, q3, q4, q5, q6, q7⟩ := pk
     obtain ⟨L8, hL8⟩ : ∃ L8, L8 = q7.length := ⟨_, rfl⟩
     simp only at d0 d1 d2 d3 d4 d5 HCX
     rw [← hL8] at d5 HCX
     clear hL8
     have Hn0 : Hid (¬ 0 < k → O ++ tx = mk (joinL 32 (c.bents F PL (k + 1)))) := by
      intro h0
      have hk0 : k = 0 := by omega
      rw [HJ.out, if_neg h0, HO2.out, HB.out, HTX.out, mk_append, hk0]
      rfl
     have Hn1 : Hid (0 < k → O ++ mk [32] ++ tx = mk (joinL 32 (c.bents F PL (k + 1)))) := by
      intro h0
      rw [HJ.out, if_pos h0, HO2.out, HB.out, HTX.out, mk_append, mk_append]
      simp
     have hs0 : (O ++ tx).size ≤ (k + 1) * 431 := by rw [ByteArray.size_append]; omega
     have hs1 : (O ++ mk [32] ++ tx).size ≤ (k + 1) * 431 := by
      have e : (O ++ mk [32] ++ tx).size = O.size + 1 + tx.size := by rw [ByteArray.size_append, ByteArray.size_append]; rfl
      rw [e]; omega
     have Hs0 := Lib.hid hs0
     have Hs1 := Lib.hid hs1
     clear hs0 hs1
     by_cases hk : k = 3
     ·have h0 : 0 < k := by omega
      have e3 : ((k : Int) == 3) = true := by simp; omega
      have f5 : ((F : Int) == 5) = false := by rw [beq_eq_false_iff_ne]; omega
      have e5 : ((k : Int) == 5) = false := by rw [beq_eq_false_iff_ne]; omega
      have e6 : ((k : Int) == 6) = false := by rw [beq_eq_false_iff_ne]; omega
      have Hn := Lib.hid (Hn1.out h0)
      clear Hn0 Hn1 h6
      clear hk
      go_wp2_with fail
      go_at_call 37
      refine (HCX.out _ HXX.out).mono ?_
      rintro e w4 ⟨rfl, x4⟩
      have X4 := Lib.hid (Hx.out.trans x4)
      clear x4
      go_wp2_with fail
      go_roundw
      case rel => exact ⟨k + 1, _, by omega, by go_num, rfl, Hn, Hs1.out, X4⟩
      case measure => simp [RowKit.intOf] <;> omega
     ·by_cases hk3 : k = 5
      ·have hk := hk3
       clear hk3
       have h0 : 0 < k := by omega
       have e3 : ((k : Int) == 3) = false := by rw [beq_eq_false_iff_ne]; omega
       have e5 : ((k : Int) == 5) = true := by simp; omega
       have f3 : ((F : Int) == 3) = false := by rw [beq_eq_false_iff_ne]; omega
       have e6 : ((k : Int) == 6) = false := by rw [beq_eq_false_iff_ne]; omega
       have Hn := Lib.hid (Hn1.out h0)
       clear Hn0 Hn1 h6
       clear hk
       go_wp2_with fail
       go_at_call 37
       refine (HCX.out _ HXX.out).mono ?_
       rintro e w4 ⟨rfl, x4⟩
       have X4 := Lib.hid (Hx.out.trans x4)
       clear x4
       go_wp2_with fail
       go_roundw
       case rel => exact ⟨k + 1, _, by omega, by go_num, rfl, Hn, Hs1.out, X4⟩
       case measure => simp [RowKit.intOf] <;> omega
      ·by_cases hk6 : k = 6
       ·have hk := hk6
        clear hk6
        have h0 : 0 < k := by omega
        have e3 : ((k : Int) == 3) = false := by rw [beq_eq_false_iff_ne]; omega
        have e5 : ((k : Int) == 5) = false := by rw [beq_eq_false_iff_ne]; omega
        have e6 : ((k : Int) == 6) = true := by simp; omega
        have hs := h6 hk
        subst hs
        have Hn := Lib.hid (Hn1.out h0)
        clear Hn0 Hn1 h6
        clear hk
        go_wp2_with fail
        go_at_call 37
        refine (HCX.out _ HXX.out).mono ?_
        rintro e w4 ⟨rfl, x4⟩
        have X4 := Lib.hid (Hx.out.trans x4)
        clear x4
        go_wp2_with fail
        go_roundw
        case rel => exact ⟨k + 1, _, by omega, by go_num, rfl, Hn, Hs1.out, X4⟩
        case measure => simp [RowKit.intOf] <;> omega
       ·by_cases hk0 : k = 0
        ·have hk := hk0
         clear hk0
         have h0 : ¬ 0 < k := by omega
         have e3 : ((k : Int) == 3) = false := by rw [beq_eq_false_iff_ne]; omega
         have e5 : ((k : Int) == 5) = false := by rw [beq_eq_false_iff_ne]; omega
         have e6 : ((k : Int) == 6) = false := by rw [beq_eq_false_iff_ne]; omega
         have Hn := Lib.hid (Hn0.out h0)
         clear Hn0 Hn1 h6
         clear hk
         go_wp2_with fail
         go_at_call 37
         refine (HCX.out _ HXX.out).mono ?_
         rintro e w4 ⟨rfl, x4⟩
         have X4 := Lib.hid (Hx.out.trans x4)
         clear x4
         go_wp2_with fail
         go_roundw
         case rel => exact ⟨k + 1, _, by omega, by go_num, rfl, Hn, Hs0.out, X4⟩
         case measure => simp [RowKit.intOf] <;> omega
        ·have h0 : 0 < k := by omega
         have e3 : ((k : Int) == 3) = false := by rw [beq_eq_false_iff_ne]; omega
         have e5 : ((k : Int) == 5) = false := by rw [beq_eq_false_iff_ne]; omega
         have e6 : ((k : Int) == 6) = false := by rw [beq_eq_false_iff_ne]; omega
         have Hn := Lib.hid (Hn1.out h0)
         clear Hn0 Hn1 h6
         clear hk
         go_wp2_with fail
         go_at_call 37
         refine (HCX.out _ HXX.out).mono ?_
         rintro e w4 ⟨rfl, x4⟩
         have X4 := Lib.hid (Hx.out.trans x4)
         clear x4
         go_wp2_with fail
         go_roundw
         case rel => exact ⟨k + 1, _, by omega, by go_num, rfl, Hn, Hs1.out, X4⟩
         case measure => simp [RowKit.intOf] <;> omega
  ·have Hk : Hid (k = L) := by show _ = _; omega
   have e6 : k = 6 → six = true := by
    intro e
    have hl := HLS.out
    rcases six with _ | _
    ·rw [if_neg (by decide)] at hl; omega
    ·rfl
   have hL67 : L = 6 ∨ L = 7 := by have hl := HLS.out; split at hl <;> omega
   have HE6 := Lib.hid e6
   clear e6
   have hkk : k = 6 ∨ k = 7 := by have := Hk.out; omega
   rcases hkk with rfl | rfl
   ·have hs := HE6.out rfl
    subst hs
    go_wp2_with fail
    go_ret2
    exact ⟨.inl ⟨_, HW2.out, by rw [← Hk.out, ← HO2.out]; rfl⟩, Xw3.out.trans Hx.out⟩
   ·go_wp2_with fail
    go_ret2
    exact ⟨.inl ⟨_, HW2.out, by rw [← Hk.out, ← HO2.out]; rfl⟩, Xw3.out.trans Hx.out⟩
set_option maxHeartbeats 6400000 in
set_option maxRecDepth 1000000 in
theorem wrong10 (c : CronV) (hO : CronIn c) (F : Nat) (hF : F < 6) (hr : c.rightB = true) (w : World) (hI : CronItems w c) (hE : Env w) :
 Calls Tryz.prog 33 #[.agg c.cells, .int .i64 F, .int .i64 10] w (WrongPost w (wrongO c F 10)) := by
 have HC : Hid (CronAt (w.alloc (.cells c.cells 27)) w.heap.size c) := cron_alloc w c
 have HX : Hid (Ext w (w.alloc (.cells c.cells 27))) := Ext.alloc _ _
 have hcw := HC.out.whole
 have HI := Lib.hid hI
 have HO := Lib.hid hO
 have HRB := Lib.hid hr
 have HRI := Lib.hid (right_is hr)
 have HW := Lib.hid (wrong_go (how := 10) hr hF)
 generalize hR : wrongO c F 10 = R at *
 unfold WrongPost
 have h0F : ¬ ((F : Int) < 0) := by omega
 have h5F : ¬ ((5 : Int) < F) := by omega
 clear hR hI hO
 go_enter Tryz.func33, Tryz.ntmps33
 go_wp2_with fail
 go_at_call 13
 refine (right_cron c HO.out _ (HI.out.ext HX.out) (hE.ext HX.out)).mono ?_
 rintro e w1 ⟨rfl, x1⟩
 rw [HRB.out]
 have C1 := Lib.hid (HC.out.ext x1)
 have X1 := Lib.hid (HX.out.trans x1)
 clear x1 hcw hr
 obtain ⟨PL, hPL⟩ : ∃ PL : List UInt8, PL = [[48, 87], [51, 50, 87], [76, 45, 48], [76, 45, 51, 50], [108]].getD (F % 5) [] := ⟨_, rfl⟩
 have HPL := Lib.hid hPL
 have HW2 : Hid (R = some (joinL 32 (c.bents 3 PL c.last))) := by
  show _ = _
  rw [HW.out, hPL]
  rw [if_neg (by decide), if_neg (by decide), if_neg (by decide), if_neg (by decide), if_neg (by decide)]
  have ht : wrongTab F 10 = some (3, [[48, 87], [51, 50, 87], [76, 45, 48], [76, 45, 51, 50], [108]].getD (F % 5) []) := by
   rcases (show F = 0 ∨ F = 1 ∨ F = 2 ∨ F = 3 ∨ F = 4 ∨ F = 5 by omega) with rfl | rfl | rfl | rfl | rfl | rfl <;> rfl
  show Option.map _ (wrongTab F 10) = _
  rw [ht]; rfl
 have HPS : Hid (PL.length ≤ 5) := by
  show _ ≤ _
  rw [hPL]
  rcases (show F = 0 ∨ F = 1 ∨ F = 2 ∨ F = 3 ∨ F = 4 ∨ F = 5 by omega) with rfl | rfl | rfl | rfl | rfl | rfl <;> decide
 clear hPL HW
 have HT0 : Hid (wrongTab F 10 = some (3, PL)) := by
  show _ = _
  rw [HPL.out]
  rcases (show F = 0 ∨ F = 1 ∨ F = 2 ∨ F = 3 ∨ F = 4 ∨ F = 5 by omega) with rfl | rfl | rfl | rfl | rfl | rfl <;> rfl
 have KK : Hid (∀ b : ByteArray, bytes b = PL → b = mk PL) := by
  intro b hb
  rw [← hb]
  exact (mk_bytes b).symm
 obtain ⟨wr, rfl⟩ : ∃ wr : World, wr = w1 := ⟨_, rfl⟩
 go_upto_block 0 with fail
 go_cut [1, 8] (fun v1 v8 W => v1 = .int .i64 3 ∧ v8 = .string (mk PL) ∧ Hid (Ext wr W))
 case first =>
  clear HW2
  rcases (show F = 0 ∨ F = 1 ∨ F = 2 ∨ F = 3 ∨ F = 4 ∨ F = 5 by omega) with rfl | rfl | rfl | rfl | rfl | rfl
  all_goals (
   go_wp2_with fail
   go_region
   all_goals (
    go_wp2_with fail
    go_meet
    exact ⟨rfl, congrArg Value.string (KK.out _ (by rw [HPL.out]; rfl)), (Ext.alloc _ _).trans (Ext.drew _)⟩))
 case rest =>
  obtain ⟨rfl, rfl, HEC⟩ := hcut
  have Cwc : Hid (CronAt wc w.heap.size c) := C1.out.ext HEC.out
  have Xwc : Hid (Ext w wc) := X1.out.trans HEC.out
  obtain ⟨wd, rfl⟩ : ∃ wd : World, wd = wc := ⟨_, rfl⟩
  have hPs : (mk PL).size ≤ 5 := by rw [size_mk]; exact HPS.out
  have HOK : Hid (CronOk c) := cron_ok HO.out HRI.out.all
  have HQB : Hid ((mk PL) = mk PL) := by
   show _ = _
   rfl
  have hqbs : ((mk PL)).size ≤ 5 := by rw [size_mk]; exact HPS.out
  obtain ⟨L, hL⟩ : ∃ L, L = c.last := ⟨_, rfl⟩
  have hL7 : L ≤ 7 := by rw [hL]; exact (last_le c).1
  obtain ⟨six, hsix⟩ : ∃ six, six = c.six := ⟨_, rfl⟩
  have HLS : Hid (L = if six then 6 else 7) := by show _ = _; rw [hL, hsix]; rfl
  have H42 : Hid (wd.cell? ⟨w.heap.size, 42, none⟩ = some (.bool six)) := by rw [hsix]; exact Cwc.out.six
  rw [← hL] at HW2
  clear hL hsix
  go_wp2_with fail
  go_loopw [10, 11] (fun o i wr => ∃ (k : Nat) (O : ByteArray), k ≤ L ∧ i = .int .i64 k ∧ o = .string O ∧ Hid (O = mk (joinL 32 (c.bents 3 PL k))) ∧ O.size ≤ k * 431 ∧ Hid (Ext wd wr))
   (fun _ i _ => 7 - (RowKit.intOf i).toNat)
  case atStart => exact ⟨0, ⟨#[]⟩, Nat.zero_le _, rfl, rfl, rfl, Nat.zero_le _, Ext.refl _⟩
  case round =>
   obtain ⟨k, O, hk, rfl, rfl, HO2, hsz, Hx⟩ := hrel
   have c42 : wr.cell? ⟨w.heap.size, 42, none⟩ = some (.bool six) := Hx.out.cell H42.out
   by_cases hlt : k < L
   ·have h7 : k < 7 := by omega
    have h6 : k = 6 → six = false := by
     intro e
     have hl := HLS.out
     cases six
     ·rfl
     ·rw [if_pos rfl] at hl; omega
    have HJ : Hid (joinL 32 (c.bents 3 PL (k + 1)) = if 0 < k then joinL 32 (c.bents 3 PL k) ++ 32 :: c.bent 3 PL k else c.bent 3 PL k) := bents_join c 3 PL k
    by_cases hkF : k = 3
    ·have HB : Hid (c.bent 3 PL k = PL) := by show _ = _; unfold CronV.bent; rw [if_pos hkF]
     have eF : ((k : Int) == 3) = true := by simp; omega
     have e6 : ((k : Int) == 6) = false := by rw [beq_eq_false_iff_ne]; omega
     clear h6
     by_cases h0 : 0 < k
     ·have Hn : Hid (O ++ mk [32] ++ (mk PL) = mk (joinL 32 (c.bents 3 PL (k + 1)))) := by
       show _ = _
       rw [HJ.out, if_pos h0, HO2.out, HB.out, mk_append, mk_append]
       simp
      have hsn : (O ++ mk [32] ++ (mk PL)).size ≤ (k + 1) * 431 := by
       have e : (O ++ mk [32] ++ (mk PL)).size = O.size + 1 + (mk PL).size := by rw [ByteArray.size_append, ByteArray.size_append]; rfl
       rw [e]; omega
      clear hkF
      go_wp2_with fail
      go_roundw
      case rel => exact ⟨k + 1, _, by omega, by go_num, rfl, Hn, hsn, Hx⟩
      case measure => simp [RowKit.intOf] <;> omega
     ·exact absurd h0 (by omega)
    ·have eF : ((k : Int) == 3) = false := by rw [beq_eq_false_iff_ne]; omega
     by_cases hd : (k = 3 ∧ 3 = 5) ∨ (k = 5 ∧ 3 = 3)
     ·have HB : Hid (c.bent 3 PL k = [63]) := by show _ = _; unfold CronV.bent; rw [if_neg hkF, if_pos hd]
      have e6 : ((k : Int) == 6) = false := by rw [beq_eq_false_iff_ne]; omega
      have h0 : 0 < k := by omega
      have Hn : Hid (O ++ mk [32] ++ mk [63] = mk (joinL 32 (c.bents 3 PL (k + 1)))) := by
       show _ = _
       rw [HJ.out, if_pos h0, HO2.out, HB.out, mk_append, mk_append]
       simp
      have hsn : (O ++ mk [32] ++ mk [63]).size ≤ (k + 1) * 431 := by
       have e : (O ++ mk [32] ++ mk [63]).size = O.size + 1 + 1 := by rw [ByteArray.size_append, ByteArray.size_append]; rfl
       rw [e]; omega
      clear h6
      rcases hd with ⟨hk, hq⟩ | ⟨hk, hq⟩
      ·exact absurd hq (by decide)
      ·have e3 : ((k : Int) == 3) = false := by rw [beq_eq_false_iff_ne]; omega
       have e5 : ((k : Int) == 5) = true := by simp; omega
       clear hk hq
       go_wp2_with fail
       go_roundw
       case rel => exact ⟨k + 1, _, by omega, by go_num, rfl, Hn, hsn, Hx⟩
       case measure => simp [RowKit.intOf] <;> omega
     ·have HB : Hid (c.bent 3 PL k = (c.p k).text k) := by show _ = _; unfold CronV.bent; rw [if_neg hkF, if_neg hd]
      have CA := Cwc.out.ext Hx.out
      have d0 := CA.k k h7
      have d1 := CA.a k h7
      have d2 := CA.b k h7
      have d3 := CA.s k h7
      have d4 := CA.n k h7
      have d5 := CA.it k h7
      obtain ⟨tx, htx⟩ : ∃ tx, tx = mk ((c.p k).text k) := ⟨_, rfl⟩
      have sx : tx.size ≤ 430 := by rw [htx, size_mk]; exact part_len (HOK.out.part k h7)
      have HCX : Hid (∀ W, Ext w W → Calls Tryz.prog 37 #[.int .i64 k, .agg #[.int .i64 (c.p k).k, .int .i64 (c.p k).a, .int .i64 (c.p k).b, .int .i64 (c.p k).s, .int .i64 (c.p k).n, .slice (c.p k).ia (c.p k).items.length (c.p k).cap]] W fun e w' => e = .returned (.string tx) ∧ Ext W w') := fun W hW => by
       rw [htx]; exact text_part k h7 (c.p k) (HOK.out.part k h7) W ((HI.out k h7).ext hW) (hE.ext hW)
      have HTX := Lib.hid htx
      have HXX : Hid (Ext w wr) := Xwc.out.trans Hx.out
      generalize c.p k = pk at d0 d1 d2 d3 d4 d5 HCX HTX HB
      clear htx CA
      obtain ⟨q0, q1, q2, q3, q4, q5, q6, q7⟩ := pk
      obtain ⟨L8, hL8⟩ : ∃ L8, L8 = q7.length := ⟨_, rfl⟩
      simp only at d0 d1 d2 d3 d4 d5 HCX
      rw [← hL8] at d5 HCX
      clear hL8
      have Hn0 : Hid (¬ 0 < k → O ++ tx = mk (joinL 32 (c.bents 3 PL (k + 1)))) := by
       intro h0
       have hk0 : k = 0 := by omega
       rw [HJ.out, if_neg h0, HO2.out, HB.out, HTX.out, mk_append, hk0]
       rfl
      have Hn1 : Hid (0 < k → O ++ mk [32] ++ tx = mk (joinL 32 (c.bents 3 PL (k + 1)))) := by
       intro h0
       rw [HJ.out, if_pos h0, HO2.out, HB.out, HTX.out, mk_append, mk_append]
       simp
      have hs0 : (O ++ tx).size ≤ (k + 1) * 431 := by rw [ByteArray.size_append]; omega
      have hs1 : (O ++ mk [32] ++ tx).size ≤ (k + 1) * 431 := by
       have e : (O ++ mk [32] ++ tx).size = O.size + 1 + tx.size := by rw [ByteArray.size_append, ByteArray.size_append]; rfl
       rw [e]; omega
      have Hs0 := Lib.hid hs0
      have Hs1 := Lib.hid hs1
      clear hs0 hs1
      by_cases hk : k = 3
      ·exact absurd hk hkF
      ·by_cases hk3 : k = 5
       ·have hk := hk3
        clear hk3
        exact absurd (Or.inr ⟨hk, rfl⟩) hd
       ·by_cases hk6 : k = 6
        ·have hk := hk6
         clear hk6
         have h0 : 0 < k := by omega
         have e3 : ((k : Int) == 3) = false := by rw [beq_eq_false_iff_ne]; omega
         have e5 : ((k : Int) == 5) = false := by rw [beq_eq_false_iff_ne]; omega
         have e6 : ((k : Int) == 6) = true := by simp; omega
         have hs := h6 hk
         subst hs
         have Hn := Lib.hid (Hn1.out h0)
         clear Hn0 Hn1 h6
         clear hk
         go_wp2_with fail
         go_at_call 37
         refine (HCX.out _ HXX.out).mono ?_
         rintro e w4 ⟨rfl, x4⟩
         have X4 := Lib.hid (Hx.out.trans x4)
         clear x4
         go_wp2_with fail
         go_roundw
         case rel => exact ⟨k + 1, _, by omega, by go_num, rfl, Hn, Hs1.out, X4⟩
         case measure => simp [RowKit.intOf] <;> omega
        ·by_cases hk0 : k = 0
         ·have hk := hk0
          clear hk0
          have h0 : ¬ 0 < k := by omega
          have e3 : ((k : Int) == 3) = false := by rw [beq_eq_false_iff_ne]; omega
          have e5 : ((k : Int) == 5) = false := by rw [beq_eq_false_iff_ne]; omega
          have e6 : ((k : Int) == 6) = false := by rw [beq_eq_false_iff_ne]; omega
          have Hn := Lib.hid (Hn0.out h0)
          clear Hn0 Hn1 h6
          clear hk
          go_wp2_with fail
          go_at_call 37
          refine (HCX.out _ HXX.out).mono ?_
          rintro e w4 ⟨rfl, x4⟩
          have X4 := Lib.hid (Hx.out.trans x4)
          clear x4
          go_wp2_with fail
          go_roundw
          case rel => exact ⟨k + 1, _, by omega, by go_num, rfl, Hn, Hs0.out, X4⟩
          case measure => simp [RowKit.intOf] <;> omega
         ·have h0 : 0 < k := by omega
          have e3 : ((k : Int) == 3) = false := by rw [beq_eq_false_iff_ne]; omega
          have e5 : ((k : Int) == 5) = false := by rw [beq_eq_false_iff_ne]; omega
          have e6 : ((k : Int) == 6) = false := by rw [beq_eq_false_iff_ne]; omega
          have Hn := Lib.hid (Hn1.out h0)
          clear Hn0 Hn1 h6
          clear hk
          go_wp2_with fail
          go_at_call 37
          refine (HCX.out _ HXX.out).mono ?_
          rintro e w4 ⟨rfl, x4⟩
          have X4 := Lib.hid (Hx.out.trans x4)
          clear x4
          go_wp2_with fail
          go_roundw
          case rel => exact ⟨k + 1, _, by omega, by go_num, rfl, Hn, Hs1.out, X4⟩
          case measure => simp [RowKit.intOf] <;> omega
   ·have Hk : Hid (k = L) := by show _ = _; omega
    have e6 : k = 6 → six = true := by
     intro e
     have hl := HLS.out
     rcases six with _ | _
     ·rw [if_neg (by decide)] at hl; omega
     ·rfl
    have hL67 : L = 6 ∨ L = 7 := by have hl := HLS.out; split at hl <;> omega
    have HE6 := Lib.hid e6
    clear e6
    have hkk : k = 6 ∨ k = 7 := by have := Hk.out; omega
    rcases hkk with rfl | rfl
    ·have hs := HE6.out rfl
     subst hs
     go_wp2_with fail
     go_ret2
     exact ⟨.inl ⟨_, HW2.out, by rw [← Hk.out, ← HO2.out]; rfl⟩, Xwc.out.trans Hx.out⟩
    ·go_wp2_with fail
     go_ret2
     exact ⟨.inl ⟨_, HW2.out, by rw [← Hk.out, ← HO2.out]; rfl⟩, Xwc.out.trans Hx.out⟩
set_option maxHeartbeats 6400000 in
set_option maxRecDepth 1000000 in
theorem wrong11 (c : CronV) (hO : CronIn c) (F : Nat) (hF : F < 6) (hr : c.rightB = true) (w : World) (hI : CronItems w c) (hE : Env w) :
 Calls Tryz.prog 33 #[.agg c.cells, .int .i64 F, .int .i64 11] w (WrongPost w (wrongO c F 11)) := by
 have HC : Hid (CronAt (w.alloc (.cells c.cells 27)) w.heap.size c) := cron_alloc w c
 have HX : Hid (Ext w (w.alloc (.cells c.cells 27))) := Ext.alloc _ _
 have hcw := HC.out.whole
 have HI := Lib.hid hI
 have HO := Lib.hid hO
 have HRB := Lib.hid hr
 have HRI := Lib.hid (right_is hr)
 have HW := Lib.hid (wrong_go (how := 11) hr hF)
 generalize hR : wrongO c F 11 = R at *
 unfold WrongPost
 have h0F : ¬ ((F : Int) < 0) := by omega
 have h5F : ¬ ((5 : Int) < F) := by omega
 clear hR hI hO
 go_enter Tryz.func33, Tryz.ntmps33
 go_wp2_with fail
 go_at_call 13
 refine (right_cron c HO.out _ (HI.out.ext HX.out) (hE.ext HX.out)).mono ?_
 rintro e w1 ⟨rfl, x1⟩
 rw [HRB.out]
 have C1 := Lib.hid (HC.out.ext x1)
 have X1 := Lib.hid (HX.out.trans x1)
 clear x1 hcw hr
 obtain ⟨PL, hPL⟩ : ∃ PL : List UInt8, PL = [[50, 35, 54], [50, 35, 48], [56, 76], [48, 35, 49]].getD (F % 4) [] := ⟨_, rfl⟩
 have HPL := Lib.hid hPL
 have HW2 : Hid (R = some (joinL 32 (c.bents 5 PL c.last))) := by
  show _ = _
  rw [HW.out, hPL]
  rw [if_neg (by decide), if_neg (by decide), if_neg (by decide), if_neg (by decide), if_neg (by decide)]
  have ht : wrongTab F 11 = some (5, [[50, 35, 54], [50, 35, 48], [56, 76], [48, 35, 49]].getD (F % 4) []) := by
   rcases (show F = 0 ∨ F = 1 ∨ F = 2 ∨ F = 3 ∨ F = 4 ∨ F = 5 by omega) with rfl | rfl | rfl | rfl | rfl | rfl <;> rfl
  show Option.map _ (wrongTab F 11) = _
  rw [ht]; rfl
 have HPS : Hid (PL.length ≤ 5) := by
  show _ ≤ _
  rw [hPL]
  rcases (show F = 0 ∨ F = 1 ∨ F = 2 ∨ F = 3 ∨ F = 4 ∨ F = 5 by omega) with rfl | rfl | rfl | rfl | rfl | rfl <;> decide
 clear hPL HW
 have HT0 : Hid (wrongTab F 11 = some (5, PL)) := by
  show _ = _
  rw [HPL.out]
  rcases (show F = 0 ∨ F = 1 ∨ F = 2 ∨ F = 3 ∨ F = 4 ∨ F = 5 by omega) with rfl | rfl | rfl | rfl | rfl | rfl <;> rfl
 have KK : Hid (∀ b : ByteArray, bytes b = PL → b = mk PL) := by
  intro b hb
  rw [← hb]
  exact (mk_bytes b).symm
 obtain ⟨wr, rfl⟩ : ∃ wr : World, wr = w1 := ⟨_, rfl⟩
 go_upto_block 0 with fail
 go_cut [1, 8] (fun v1 v8 W => v1 = .int .i64 5 ∧ v8 = .string (mk PL) ∧ Hid (Ext wr W))
 case first =>
  clear HW2
  rcases (show F = 0 ∨ F = 1 ∨ F = 2 ∨ F = 3 ∨ F = 4 ∨ F = 5 by omega) with rfl | rfl | rfl | rfl | rfl | rfl
  all_goals (
   go_wp2_with fail
   go_region
   all_goals (
    go_wp2_with fail
    go_meet
    exact ⟨rfl, congrArg Value.string (KK.out _ (by rw [HPL.out]; rfl)), (Ext.alloc _ _).trans (Ext.drew _)⟩))
 case rest =>
  obtain ⟨rfl, rfl, HEC⟩ := hcut
  have Cwc : Hid (CronAt wc w.heap.size c) := C1.out.ext HEC.out
  have Xwc : Hid (Ext w wc) := X1.out.trans HEC.out
  obtain ⟨wd, rfl⟩ : ∃ wd : World, wd = wc := ⟨_, rfl⟩
  have hPs : (mk PL).size ≤ 5 := by rw [size_mk]; exact HPS.out
  have HOK : Hid (CronOk c) := cron_ok HO.out HRI.out.all
  have HQB : Hid ((mk PL) = mk PL) := by
   show _ = _
   rfl
  have hqbs : ((mk PL)).size ≤ 5 := by rw [size_mk]; exact HPS.out
  obtain ⟨L, hL⟩ : ∃ L, L = c.last := ⟨_, rfl⟩
  have hL7 : L ≤ 7 := by rw [hL]; exact (last_le c).1
  obtain ⟨six, hsix⟩ : ∃ six, six = c.six := ⟨_, rfl⟩
  have HLS : Hid (L = if six then 6 else 7) := by show _ = _; rw [hL, hsix]; rfl
  have H42 : Hid (wd.cell? ⟨w.heap.size, 42, none⟩ = some (.bool six)) := by rw [hsix]; exact Cwc.out.six
  rw [← hL] at HW2
  clear hL hsix
  go_wp2_with fail
  go_loopw [10, 11] (fun o i wr => ∃ (k : Nat) (O : ByteArray), k ≤ L ∧ i = .int .i64 k ∧ o = .string O ∧ Hid (O = mk (joinL 32 (c.bents 5 PL k))) ∧ O.size ≤ k * 431 ∧ Hid (Ext wd wr))
   (fun _ i _ => 7 - (RowKit.intOf i).toNat)
  case atStart => exact ⟨0, ⟨#[]⟩, Nat.zero_le _, rfl, rfl, rfl, Nat.zero_le _, Ext.refl _⟩
  case round =>
   obtain ⟨k, O, hk, rfl, rfl, HO2, hsz, Hx⟩ := hrel
   have c42 : wr.cell? ⟨w.heap.size, 42, none⟩ = some (.bool six) := Hx.out.cell H42.out
   by_cases hlt : k < L
   ·have h7 : k < 7 := by omega
    have h6 : k = 6 → six = false := by
     intro e
     have hl := HLS.out
     cases six
     ·rfl
     ·rw [if_pos rfl] at hl; omega
    have HJ : Hid (joinL 32 (c.bents 5 PL (k + 1)) = if 0 < k then joinL 32 (c.bents 5 PL k) ++ 32 :: c.bent 5 PL k else c.bent 5 PL k) := bents_join c 5 PL k
    by_cases hkF : k = 5
    ·have HB : Hid (c.bent 5 PL k = PL) := by show _ = _; unfold CronV.bent; rw [if_pos hkF]
     have eF : ((k : Int) == 5) = true := by simp; omega
     have e6 : ((k : Int) == 6) = false := by rw [beq_eq_false_iff_ne]; omega
     clear h6
     by_cases h0 : 0 < k
     ·have Hn : Hid (O ++ mk [32] ++ (mk PL) = mk (joinL 32 (c.bents 5 PL (k + 1)))) := by
       show _ = _
       rw [HJ.out, if_pos h0, HO2.out, HB.out, mk_append, mk_append]
       simp
      have hsn : (O ++ mk [32] ++ (mk PL)).size ≤ (k + 1) * 431 := by
       have e : (O ++ mk [32] ++ (mk PL)).size = O.size + 1 + (mk PL).size := by rw [ByteArray.size_append, ByteArray.size_append]; rfl
       rw [e]; omega
      clear hkF
      go_wp2_with fail
      go_roundw
      case rel => exact ⟨k + 1, _, by omega, by go_num, rfl, Hn, hsn, Hx⟩
      case measure => simp [RowKit.intOf] <;> omega
     ·exact absurd h0 (by omega)
    ·have eF : ((k : Int) == 5) = false := by rw [beq_eq_false_iff_ne]; omega
     by_cases hd : (k = 3 ∧ 5 = 5) ∨ (k = 5 ∧ 5 = 3)
     ·have HB : Hid (c.bent 5 PL k = [63]) := by show _ = _; unfold CronV.bent; rw [if_neg hkF, if_pos hd]
      have e6 : ((k : Int) == 6) = false := by rw [beq_eq_false_iff_ne]; omega
      have h0 : 0 < k := by omega
      have Hn : Hid (O ++ mk [32] ++ mk [63] = mk (joinL 32 (c.bents 5 PL (k + 1)))) := by
       show _ = _
       rw [HJ.out, if_pos h0, HO2.out, HB.out, mk_append, mk_append]
       simp
      have hsn : (O ++ mk [32] ++ mk [63]).size ≤ (k + 1) * 431 := by
       have e : (O ++ mk [32] ++ mk [63]).size = O.size + 1 + 1 := by rw [ByteArray.size_append, ByteArray.size_append]; rfl
       rw [e]; omega
      clear h6
      rcases hd with ⟨hk, hq⟩ | ⟨hk, hq⟩
      ·have e3 : ((k : Int) == 3) = true := by simp; omega
       clear hk hq
       go_wp2_with fail
       go_roundw
       case rel => exact ⟨k + 1, _, by omega, by go_num, rfl, Hn, hsn, Hx⟩
       case measure => simp [RowKit.intOf] <;> omega
      ·exact absurd hq (by decide)
     ·have HB : Hid (c.bent 5 PL k = (c.p k).text k) := by show _ = _; unfold CronV.bent; rw [if_neg hkF, if_neg hd]
      have CA := Cwc.out.ext Hx.out
      have d0 := CA.k k h7
      have d1 := CA.a k h7
      have d2 := CA.b k h7
      have d3 := CA.s k h7
      have d4 := CA.n k h7
      have d5 := CA.it k h7
      obtain ⟨tx, htx⟩ : ∃ tx, tx = mk ((c.p k).text k) := ⟨_, rfl⟩
      have sx : tx.size ≤ 430 := by rw [htx, size_mk]; exact part_len (HOK.out.part k h7)
      have HCX : Hid (∀ W, Ext w W → Calls Tryz.prog 37 #[.int .i64 k, .agg #[.int .i64 (c.p k).k, .int .i64 (c.p k).a, .int .i64 (c.p k).b, .int .i64 (c.p k).s, .int .i64 (c.p k).n, .slice (c.p k).ia (c.p k).items.length (c.p k).cap]] W fun e w' => e = .returned (.string tx) ∧ Ext W w') := fun W hW => by
       rw [htx]; exact text_part k h7 (c.p k) (HOK.out.part k h7) W ((HI.out k h7).ext hW) (hE.ext hW)
      have HTX := Lib.hid htx
      have HXX : Hid (Ext w wr) := Xwc.out.trans Hx.out
      generalize c.p k = pk at d0 d1 d2 d3 d4 d5 HCX HTX HB
      clear htx CA
      obtain ⟨q0, q1, q2, q3, q4, q5, q6, q7⟩ := pk
      obtain ⟨L8, hL8⟩ : ∃ L8, L8 = q7.length := ⟨_, rfl⟩
      simp only at d0 d1 d2 d3 d4 d5 HCX
      rw [← hL8] at d5 HCX
      clear hL8
      have Hn0 : Hid (¬ 0 < k → O ++ tx = mk (joinL 32 (c.bents 5 PL (k + 1)))) := by
       intro h0
       have hk0 : k = 0 := by omega
       rw [HJ.out, if_neg h0, HO2.out, HB.out, HTX.out, mk_append, hk0]
       rfl
      have Hn1 : Hid (0 < k → O ++ mk [32] ++ tx = mk (joinL 32 (c.bents 5 PL (k + 1)))) := by
       intro h0
       rw [HJ.out, if_pos h0, HO2.out, HB.out, HTX.out, mk_append, mk_append]
       simp
      have hs0 : (O ++ tx).size ≤ (k + 1) * 431 := by rw [ByteArray.size_append]; omega
      have hs1 : (O ++ mk [32] ++ tx).size ≤ (k + 1) * 431 := by
       have e : (O ++ mk [32] ++ tx).size = O.size + 1 + tx.size := by rw [ByteArray.size_append, ByteArray.size_append]; rfl
       rw [e]; omega
      have Hs0 := Lib.hid hs0
      have Hs1 := Lib.hid hs1
      clear hs0 hs1
      by_cases hk : k = 3
      ·exact absurd (Or.inl ⟨hk, rfl⟩) hd
      ·by_cases hk3 : k = 5
       ·have hk := hk3
        clear hk3
        exact absurd hk hkF
       ·by_cases hk6 : k = 6
        ·have hk := hk6
         clear hk6
         have h0 : 0 < k := by omega
         have e3 : ((k : Int) == 3) = false := by rw [beq_eq_false_iff_ne]; omega
         have e5 : ((k : Int) == 5) = false := by rw [beq_eq_false_iff_ne]; omega
         have e6 : ((k : Int) == 6) = true := by simp; omega
         have hs := h6 hk
         subst hs
         have Hn := Lib.hid (Hn1.out h0)
         clear Hn0 Hn1 h6
         clear hk
         go_wp2_with fail
         go_at_call 37
         refine (HCX.out _ HXX.out).mono ?_
         rintro e w4 ⟨rfl, x4⟩
         have X4 := Lib.hid (Hx.out.trans x4)
         clear x4
         go_wp2_with fail
         go_roundw
         case rel => exact ⟨k + 1, _, by omega, by go_num, rfl, Hn, Hs1.out, X4⟩
         case measure => simp [RowKit.intOf] <;> omega
        ·by_cases hk0 : k = 0
         ·have hk := hk0
          clear hk0
          have h0 : ¬ 0 < k := by omega
          have e3 : ((k : Int) == 3) = false := by rw [beq_eq_false_iff_ne]; omega
          have e5 : ((k : Int) == 5) = false := by rw [beq_eq_false_iff_ne]; omega
          have e6 : ((k : Int) == 6) = false := by rw [beq_eq_false_iff_ne]; omega
          have Hn := Lib.hid (Hn0.out h0)
          clear Hn0 Hn1 h6
          clear hk
          go_wp2_with fail
          go_at_call 37
          refine (HCX.out _ HXX.out).mono ?_
          rintro e w4 ⟨rfl, x4⟩
          have X4 := Lib.hid (Hx.out.trans x4)
          clear x4
          go_wp2_with fail
          go_roundw
          case rel => exact ⟨k + 1, _, by omega, by go_num, rfl, Hn, Hs0.out, X4⟩
          case measure => simp [RowKit.intOf] <;> omega
         ·have h0 : 0 < k := by omega
          have e3 : ((k : Int) == 3) = false := by rw [beq_eq_false_iff_ne]; omega
          have e5 : ((k : Int) == 5) = false := by rw [beq_eq_false_iff_ne]; omega
          have e6 : ((k : Int) == 6) = false := by rw [beq_eq_false_iff_ne]; omega
          have Hn := Lib.hid (Hn1.out h0)
          clear Hn0 Hn1 h6
          clear hk
          go_wp2_with fail
          go_at_call 37
          refine (HCX.out _ HXX.out).mono ?_
          rintro e w4 ⟨rfl, x4⟩
          have X4 := Lib.hid (Hx.out.trans x4)
          clear x4
          go_wp2_with fail
          go_roundw
          case rel => exact ⟨k + 1, _, by omega, by go_num, rfl, Hn, Hs1.out, X4⟩
          case measure => simp [RowKit.intOf] <;> omega
   ·have Hk : Hid (k = L) := by show _ = _; omega
    have e6 : k = 6 → six = true := by
     intro e
     have hl := HLS.out
     rcases six with _ | _
     ·rw [if_neg (by decide)] at hl; omega
     ·rfl
    have hL67 : L = 6 ∨ L = 7 := by have hl := HLS.out; split at hl <;> omega
    have HE6 := Lib.hid e6
    clear e6
    have hkk : k = 6 ∨ k = 7 := by have := Hk.out; omega
    rcases hkk with rfl | rfl
    ·have hs := HE6.out rfl
     subst hs
     go_wp2_with fail
     go_ret2
     exact ⟨.inl ⟨_, HW2.out, by rw [← Hk.out, ← HO2.out]; rfl⟩, Xwc.out.trans Hx.out⟩
    ·go_wp2_with fail
     go_ret2
     exact ⟨.inl ⟨_, HW2.out, by rw [← Hk.out, ← HO2.out]; rfl⟩, Xwc.out.trans Hx.out⟩
set_option maxHeartbeats 3200000 in
set_option maxRecDepth 1000000 in
theorem wrong_bad (c : CronV) (hO : CronIn c) (f how : Int) (hr : c.rightB = false) (w : World) (hI : CronItems w c) (hE : Env w) :
 Calls Tryz.prog 33 #[.agg c.cells, .int .i64 f, .int .i64 how] w (WrongPost w (wrongO c f how)) := by
 have HC : Hid (CronAt (w.alloc (.cells c.cells 27)) w.heap.size c) := cron_alloc w c
 have HX : Hid (Ext w (w.alloc (.cells c.cells 27))) := Ext.alloc _ _
 have hcw := HC.out.whole
 have HRB := Lib.hid hr
 rw [wrong_none1 hr]
 clear hr
 unfold WrongPost
 go_enter Tryz.func33, Tryz.ntmps33
 go_wp2_with fail
 go_at_call 13
 refine (right_cron c hO _ (hI.ext HX.out) (hE.ext HX.out)).mono ?_
 rintro e w1 ⟨rfl, x1⟩
 rw [HRB.out]
 have X1 := Lib.hid (HX.out.trans x1)
 clear x1 hcw
 go_wp2_with fail
 go_ret2
 exact ⟨.inr ⟨by first | rfl | trivial, rfl⟩, X1.out⟩
set_option maxHeartbeats 3200000 in
set_option maxRecDepth 1000000 in
theorem wrong_out (c : CronV) (hO : CronIn c) (f how : Int) (hr : c.rightB = true) (hf : f < 0 ∨ 5 < f) (w : World) (hI : CronItems w c) (hE : Env w) :
 Calls Tryz.prog 33 #[.agg c.cells, .int .i64 f, .int .i64 how] w (WrongPost w (wrongO c f how)) := by
 have HC : Hid (CronAt (w.alloc (.cells c.cells 27)) w.heap.size c) := cron_alloc w c
 have HX : Hid (Ext w (w.alloc (.cells c.cells 27))) := Ext.alloc _ _
 have hcw := HC.out.whole
 have HRB := Lib.hid hr
 have hn : wrongO c f how = none := by
  rcases hf with h | h
  ·exact wrong_none2 h
  ·exact wrong_none3 h
 rw [hn]
 clear hr hn
 unfold WrongPost
 go_enter Tryz.func33, Tryz.ntmps33
 go_wp2_with fail
 go_at_call 13
 refine (right_cron c hO _ (hI.ext HX.out) (hE.ext HX.out)).mono ?_
 rintro e w1 ⟨rfl, x1⟩
 rw [HRB.out]
 have X1 := Lib.hid (HX.out.trans x1)
 clear x1 hcw
 rcases hf with hf | hf
 ·go_wp2_with fail
  go_ret2
  exact ⟨.inr ⟨by first | rfl | trivial, rfl⟩, X1.out⟩
 ·have h0 : ¬ f < 0 := by omega
  go_wp2_with fail
  go_ret2
  exact ⟨.inr ⟨by first | rfl | trivial, rfl⟩, X1.out⟩
theorem wrong_any (c : CronV) (hO : CronIn c) (f how : Int) (w : World) (hI : CronItems w c) (hE : Env w) :
 Calls Tryz.prog 33 #[.agg c.cells, .int .i64 f, .int .i64 how] w (WrongPost w (wrongO c f how)) := by
 by_cases hr : c.rightB = true
 ·by_cases h0 : f < 0
  ·exact wrong_out c hO f how hr (.inl h0) w hI hE
  ·by_cases h5 : 5 < f
   ·exact wrong_out c hO f how hr (.inr h5) w hI hE
   ·obtain ⟨F, rfl⟩ : ∃ F : Nat, f = F := ⟨f.toNat, by omega⟩
    have hF : F < 6 := by omega
    by_cases hh : how < 0 ∨ 12 < how
    ·exact wrong_else c hO F hF hr how hh w hI hE
    ·rcases (show how = 0 ∨ how = 1 ∨ how = 2 ∨ how = 3 ∨ how = 4 ∨ how = 5 ∨ how = 6 ∨ how = 7 ∨ how = 8 ∨ how = 9 ∨ how = 10 ∨ how = 11 ∨ how = 12 by omega) with rfl | rfl | rfl | rfl | rfl | rfl | rfl | rfl | rfl | rfl | rfl | rfl | rfl
     ·exact wrong0 c hO F hF hr w hI hE
     ·exact wrong1 c hO F hF hr w hI hE
     ·exact wrong2 c hO F hF hr w hI hE
     ·exact wrong3 c hO F hF hr w hI hE
     ·by_cases h3 : F < 3
      ·exact wrong4a c hO F hF hr h3 w hI hE
      ·exact wrong4b c hO F hF hr (by omega) w hI hE
     ·exact wrong5 c hO F hF hr w hI hE
     ·exact wrong6 c hO F hF hr w hI hE
     ·exact wrong7 c hO F hF hr w hI hE
     ·exact wrong8 c hO F hF hr w hI hE
     ·exact wrong9 c hO F hF hr w hI hE
     ·exact wrong10 c hO F hF hr w hI hE
     ·exact wrong11 c hO F hF hr w hI hE
     ·exact wrong12 c hO F hF hr w hI hE
 ·exact wrong_bad c hO f how (by simpa using hr) w hI hE
end Go.Proofs.YtmaffdhcmdhjfaaGreatDoor
