/- buildCronField. (Printed by genbuild.py.) -/
import Derived.Test.YtmaffdhcmdhjfaaGreatDoorAdd
namespace Go.Proofs.YtmaffdhcmdhjfaaGreatDoor
open Go.RowKit Go.Lib

/-- a later world: what was there is as it was, but for one block -/
structure But (B : Nat) (w w' : World) : Prop where
  size : w.heap.size ≤ w'.heap.size
  block : ∀ k, k < w.heap.size → k ≠ B → w'.heap[k]? = w.heap[k]?
theorem But.refl (B : Nat) (w : World) : But B w w := ⟨Nat.le_refl _, fun _ _ _ => rfl⟩
theorem But.trans {B : Nat} {a b c : World} (h : But B a b) (k : But B b c) : But B a c :=
  ⟨Nat.le_trans h.size k.size, fun i hi hb => (k.block i (Nat.lt_of_lt_of_le hi h.size) hb).trans (h.block i hi hb)⟩
theorem But.ext {B : Nat} {a b : World} (h : Ext a b) : But B a b := ⟨Below.size h, fun i hi _ => Below.block h i hi⟩
theorem But.set (B : Nat) (w : World) (j : Nat) (v : Value) : But B w (w.setCell ⟨B, j, none⟩ v) :=
  ⟨by simp, fun i _ hb => heap_setCell_other w ⟨B, j, none⟩ i v hb⟩
theorem But.below {B b : Nat} {a w w' : World} (h : But B a w) (k : Below b w w') (hb : a.heap.size ≤ b) : But B a w' :=
  ⟨Nat.le_trans h.size k.size, fun i hi hB => (k.block i (Nat.lt_of_lt_of_le hi hb)).trans (h.block i hi hB)⟩

theorem Field.but {B : Nat} {w w' : World} {base : Nat} {v : Value} {zs : List Int} {n : Int} {cs : Array Value} {fr : Nat × Nat} (h : Field w base v zs n) (hB : w.heap[B]? = some (.cells cs 90 fr)) (k : But B w w') : Field w' base v zs n := by
  obtain ⟨N, sl, hv, hb, hN, hI⟩ := h
  refine ⟨N, sl, hv, hb, ?_, hI.1, ?_⟩
  · rw [k.block N (block_lt hN) (by rintro rfl; rw [hN] at hB; injection hB with hB; injection hB with _ hB; cases hB)]; exact hN
  · rcases hI.2 with hn | ⟨g, cap, cur, h1, h2, hg, rest⟩
    · exact .inl hn
    · refine .inr ⟨g, cap, cur, h1, h2, ?_, rest⟩
      rw [k.block g (block_lt hg) (by rintro rfl; rw [hg] at hB; injection hB with hB; injection hB with _ hB; cases hB)]; exact hg

/-- the fields so far -/
def FL (w : World) (base : Nat) (ps : List Value) (fs : List (List Int × Int)) : Prop :=
  ps.length = fs.length ∧ ∀ (i : Nat) (p : Value) (f : List Int × Int), ps[i]? = some p → fs[i]? = some f → Field w base p f.1 f.2
theorem FL.nil (w : World) (base : Nat) : FL w base [] [] := ⟨rfl, fun i p f h => by simp at h⟩
theorem FL.ext {w w' : World} {base : Nat} {ps : List Value} {fs : List (List Int × Int)} (h : FL w base ps fs) (x : Ext w w') : FL w' base ps fs :=
  ⟨h.1, fun i p f h1 h2 => (h.2 i p f h1 h2).ext x⟩
theorem FL.but {B : Nat} {w w' : World} {base : Nat} {ps : List Value} {fs : List (List Int × Int)} {cs : Array Value} {fr : Nat × Nat} (h : FL w base ps fs) (hB : w.heap[B]? = some (.cells cs 90 fr)) (x : But B w w') : FL w' base ps fs :=
  ⟨h.1, fun i p f h1 h2 => (h.2 i p f h1 h2).but hB x⟩
theorem FL.snoc {w : World} {base : Nat} {ps : List Value} {fs : List (List Int × Int)} {p : Value} {zs : List Int} {n : Int} (h : FL w base ps fs) (k : Field w base p zs n) : FL w base (ps ++ [p]) (fs ++ [(zs, n)]) := by
  refine ⟨by simp [h.1], fun i q f h1 h2 => ?_⟩
  rcases Nat.lt_trichotomy i ps.length with hi | hi | hi
  · rw [List.getElem?_append_left hi] at h1
    rw [List.getElem?_append_left (by rw [← h.1]; exact hi)] at h2
    exact h.2 i q f h1 h2
  · subst hi
    rw [List.getElem?_append_right (Nat.le_refl _)] at h1
    rw [List.getElem?_append_right (by rw [h.1]; exact Nat.le_refl _)] at h2
    simp [h.1] at h1 h2
    subst h1; subst h2; exact k
  · rw [List.getElem?_eq_none (by simp; omega)] at h1; cases h1

/-- the slice of an expression's fields -/
def Fields (w : World) (base : Nat) (v : Value) (fs : List (List Int × Int)) : Prop :=
  ∃ B ps, v = .slice (some ⟨B, 0, none⟩) 7 7 ∧ base ≤ B ∧ w.heap[B]? = some (.cells ps.toArray 90 (0, 0)) ∧ ps.length = 7 ∧ FL w base ps fs
theorem Fields.ext {w w' : World} {base : Nat} {v : Value} {fs : List (List Int × Int)} (h : Fields w base v fs) (x : Ext w w') : Fields w' base v fs := by
  obtain ⟨B, ps, h1, h2, h3, h4, h5⟩ := h
  exact ⟨B, ps, h1, h2, by rw [Below.block x B (block_lt h3)]; exact h3, h4, h5.ext x⟩

theorem set_row {w : World} {B k : Nat} {cs : Array Value} {u : Value} (h : w.heap[B]? = some (.cells cs 90 (0, 0))) : (w.setCell ⟨B, k, none⟩ u).heap[B]? = some (.cells (cs.setIfInBounds k u) 90 (0, 0)) :=
  heap_setCell_same w B k cs 90 u h
theorem row_cell {w : World} {B k : Nat} {cs : Array Value} {u : Value} (h : w.heap[B]? = some (.cells cs 90 (0, 0))) (hk : cs[k]? = some u) : w.cell? ⟨B, k, none⟩ = some u := by
  simp [World.cell?, h, hk]
theorem row_frozen {w : World} {B k : Nat} {cs : Array Value} (h : w.heap[B]? = some (.cells cs 90 (0, 0))) : w.frozen? ⟨B, k, none⟩ = false :=
  frozen_of_row w B k cs 90 h

theorem catAll_len {f : List UInt8 → Option (List Int)} {c : Nat} (hf : ∀ x a, f x = some a → a.length ≤ c) : ∀ (l : List (List UInt8)) (zs : List Int), catAll f l = some zs → zs.length ≤ l.length * c
  | [], zs, h => by simp [catAll] at h; subst h; simp
  | x :: xs, zs, h => by
    unfold catAll at h
    cases hx : f x with
    | none => rw [hx] at h; cases h
    | some a =>
      rw [hx] at h
      simp only [Option.map_eq_some_iff] at h
      obtain ⟨y, hy, rfl⟩ := h
      have h1 := catAll_len hf xs y hy
      have h2 := hf x a hx
      rw [List.length_append, List.length_cons, Nat.add_mul, Nat.one_mul]
      omega
theorem listO_len {names : List (List UInt8)} {lo hi : Int} {l : List UInt8} {zs : List Int} (h : listO names lo hi l = some zs) (h0 : 0 ≤ lo) (h1 : hi ≤ 4000) (hl : l.length ≤ 1000) : zs.length ≤ 100000000 := by
  have hT := splitL_len l 44
  unfold listO at h
  split at h
  · cases h
  · rename_i a ha
    split at h
    · cases h
    · rename_i b hb
      split at h
      · cases h
      · rename_i c hc
        injection h with h
        subst h
        have l1 := normAll_len _ _ _ ha
        have l2 := catAll_len (c := 4001) (fun x a hx => (stepO_len hx h0 h1).2) _ _ hb
        have l3 := catAll_len (c := 4001) (fun x a hx => (rangeO_len hx h0 h1).2) _ _ hc
        have q1 := outC_le 47 (splitL l 44)
        have q2 := inC_le 47 (splitL l 44)
        have q3 := outC_le 45 (outC 47 (splitL l 44))
        have q4 := inC_le 45 (outC 47 (splitL l 44))
        simp only [sortL, List.length_mergeSort, List.length_append]
        omega
theorem fieldO_len {names : List (List UInt8)} {lo hi : Int} {l : List UInt8} {zs : List Int} (h : fieldO names lo hi l = some zs) (h0 : 0 ≤ lo) (h1 : hi ≤ 4000) (hl : l.length ≤ 1000) : zs.length ≤ 100000000 := by
  unfold fieldO at h
  split at h
  · injection h with h; subst h; simp
  · split at h
    · exact listO_len h h0 h1 hl
    · split at h
      · have := (stepO_len h h0 h1).2; omega
      · split at h
        · have := (rangeO_len h h0 h1).2; omega
        · split at h
          · cases h
          · obtain ⟨_, rfl⟩ := ite_some h; simp
theorem dowO_len {l : List UInt8} {zs : List Int} {n : Int} (h : dowO dayN 1 7 l = some (zs, n)) (hl : l.length ≤ 1000) : zs.length ≤ 100000000 := by
  unfold dowO at h
  split at h
  · split at h
    · injection h with h; injection h with h h2; subst h; simp
    · split at h
      · cases h
      · split at h
        · injection h with h; injection h with h h2; subst h; simp
        · cases h
  · split at h
    · split at h
      · split at h
        · cases h
        · split at h
          · split at h
            · cases h
            · split at h
              · injection h with h; injection h with h h2; subst h; simp
              · cases h
          · cases h
      · cases h
    · simp only [Option.map_eq_some_iff] at h
      obtain ⟨y, hy, he⟩ := h
      injection he with he; subst he
      exact fieldO_len hy (by decide) (by decide) hl

theorem parse_field' (s : ByteArray) (lo hi : Int) (vn : Value) (names : List (List UInt8)) (w : World) (hs : s.size ≤ 2000) (hlo : 0 ≤ lo) (hhi : hi ≤ 4000) (hvn : Strs w 0 vn names) (hnn : names.length ≤ 13) (hE : Env w) :
    Calls Tryz.prog 90 #[.string s, .agg #[.int .i64 lo, .int .i64 hi], vn] w fun e w' => ∃ P ev, e = .returned (.tuple #[.pointer P, ev]) ∧
      ((∃ zs, fieldO names lo hi (bytes s) = some zs ∧ ev = .nilIface ∧ Field w' w.heap.size (.pointer P) zs 0) ∨
      (fieldO names lo hi (bytes s) = none ∧ ∃ t p, P = none ∧ ev = .iface t p)) ∧ Ext w w' := by
  refine (parse_field s lo hi vn names w hs hlo hhi hvn hnn hE).mono ?_
  rintro e w' ⟨⟨zs, v, h1, rfl, h2⟩ | ⟨h1, t, p, rfl⟩, hx⟩
  · obtain ⟨N, sl, rfl, h3⟩ := h2
    exact ⟨_, _, rfl, .inl ⟨zs, h1, rfl, N, sl, rfl, h3⟩, hx⟩
  · exact ⟨_, _, rfl, .inr ⟨h1, t, p, rfl, rfl⟩, hx⟩
theorem parse_dow' (s : ByteArray) (lo hi : Int) (vn : Value) (names : List (List UInt8)) (w : World) (hs : s.size ≤ 2000) (hlo : 0 ≤ lo) (hhi : hi ≤ 4000) (hvn : Strs w 0 vn names) (hnn : names.length ≤ 13) (hE : Env w) :
    Calls Tryz.prog 93 #[.string s, .agg #[.int .i64 lo, .int .i64 hi], vn] w fun e w' => ∃ P ev, e = .returned (.tuple #[.pointer P, ev]) ∧
      ((∃ zs n, dowO names lo hi (bytes s) = some (zs, n) ∧ ev = .nilIface ∧ Field w' w.heap.size (.pointer P) zs n) ∨
      (dowO names lo hi (bytes s) = none ∧ ∃ t p, P = none ∧ ev = .iface t p)) ∧ Ext w w' := by
  refine (parse_dow s lo hi vn names w hs hlo hhi hvn hnn hE).mono ?_
  rintro e w' ⟨⟨zs, n, v, h1, rfl, h2⟩ | ⟨h1, t, p, rfl⟩, hx⟩
  · obtain ⟨N, sl, rfl, h3⟩ := h2
    exact ⟨_, _, rfl, .inl ⟨zs, n, h1, rfl, N, sl, rfl, h3⟩, hx⟩
  · exact ⟨_, _, rfl, .inr ⟨h1, t, p, rfl, rfl⟩, hx⟩

theorem cell_lt {w : World} {a : Addr} {v : Value} (h : w.cell? a = some v) : a.block < w.heap.size := by
  rcases Nat.lt_or_ge a.block w.heap.size with h' | h'
  · exact h'
  · simp [World.cell?, Array.getElem?_eq_none h'] at h
theorem Field.ptr {w : World} {base : Nat} {v : Value} {zs : List Int} {n : Int} (h : Field w base v zs n) : ∃ N, v = .pointer (some ⟨N, 0, none⟩) := by
  obtain ⟨N, _, hv, _⟩ := h
  exact ⟨N, hv⟩

def buildO : List (List UInt8) → Option (List (List Int × Int))
  | [a, b, c, d, e, f, g] =>
    match fieldO [] 0 59 a with
    | none => none
    | some A => match fieldO [] 0 59 b with
      | none => none
      | some B => match fieldO [] 0 23 c with
        | none => none
        | some C => match domO [] 1 31 d with
          | none => none
          | some (D, dn) => match fieldO monthN 1 12 e with
            | none => none
            | some E => match dowO dayN 1 7 f with
              | none => none
              | some (F, wn) => match fieldO [] 1970 3940 g with
                | none => none
                | some G => some [(A, 0), (B, 0), (C, 0), (D, dn), (E, 0), (F.map dec1, wn), (G, 0)]
  | _ => none

theorem Tryz.info90 : (Tryz.prog.info? 90).map (fun i => (i.zero, i.size, i.bytes)) = some (some (.pointer none), 1, 8) := by kernel_rfl
theorem row_made {w : World} {base B : Nat} (h : w.ownsRow base 90 1 (.slice (some ⟨B, 0, none⟩) 7 7) 7 (madeCells (Value.pointer none).cells (7 * 1)).toList) :
    w.heap[B]? = some (.cells #[.pointer none, .pointer none, .pointer none, .pointer none, .pointer none, .pointer none, .pointer none] 90 (0, 0)) := by
  rcases h.2 with ⟨h', _⟩ | ⟨g, cap, cur, h', _, hg, hn, _, hs, ht⟩
  · cases h'
  · injection h' with h1 h2 h3
    injection h1 with h1; injection h1 with h1
    subst h1; subst h3
    have e : cur.toList = (madeCells (Value.pointer none).cells (7 * 1)).toList := by rw [← ht, List.take_of_length_le (by simp [hs])]
    have e2 : cur = madeCells (Value.pointer none).cells (7 * 1) := Array.toList_inj.mp e
    rw [hg, e2]; rw [show madeCells (Value.pointer none).cells (7 * 1) = (Array.range 7).map (fun _ => Value.pointer none) by unfold madeCells; apply Array.map_congr_left; intro x _; simp [Value.cells, Nat.mod_one], show Array.range 7 = #[0, 1, 2, 3, 4, 5, 6] by decide]; simp

set_option maxHeartbeats 6400000 in
set_option maxRecDepth 1000000 in
theorem build_any (a b c d e f g : List UInt8) (gt cap : Nat) (w : World) (hl : a.length ≤ 1000 ∧ b.length ≤ 1000 ∧ c.length ≤ 1000 ∧ d.length ≤ 1000 ∧ e.length ≤ 1000 ∧ f.length ≤ 1000 ∧ g.length ≤ 1000) (hE : Env w)
    (h0 : w.cell? ⟨gt, 0, none⟩ = some (.string (mk a))) (h1 : w.cell? ⟨gt, 1, none⟩ = some (.string (mk b))) (h2 : w.cell? ⟨gt, 2, none⟩ = some (.string (mk c))) (h3 : w.cell? ⟨gt, 3, none⟩ = some (.string (mk d)))
    (h4 : w.cell? ⟨gt, 4, none⟩ = some (.string (mk e))) (h5 : w.cell? ⟨gt, 5, none⟩ = some (.string (mk f))) (h6 : w.cell? ⟨gt, 6, none⟩ = some (.string (mk g))) :
    Calls Tryz.prog 78 #[.slice (some ⟨gt, 0, none⟩) 7 cap] w fun en w' => ((∃ fs v, buildO [a, b, c, d, e, f, g] = some fs ∧ en = .returned (.tuple #[v, .nilIface]) ∧ Fields w' w.heap.size v fs) ∨
      (buildO [a, b, c, d, e, f, g] = none ∧ ∃ t p, en = .returned (.tuple #[.slice none 0 0, .iface t p]))) ∧ Ext w w' := by
  obtain ⟨i0, hi0, hz0, hz1, hz2⟩ := info_parts Tryz.info90
  obtain ⟨la, lb, lc, ld, le, lf, lg⟩ := hl
  have hgt : gt < w.heap.size := cell_lt h0
  have H0 := Lib.hid h0
  have H1 := Lib.hid h1
  have H2 := Lib.hid h2
  have H3 := Lib.hid h3
  have H4 := Lib.hid h4
  have H5 := Lib.hid h5
  have H6 := Lib.hid h6
  clear h0 h1 h2 h3 h4 h5 h6
  go_enter Tryz.func78, Tryz.ntmps78
  go_wp2_with (first
    | (at_make; refine wpList_make_full _ rfl _ _ 87 rfl w.heap.size 90 i0 (.pointer none) 1 Tryz.underlying87 hi0 hz0 hz1 .i64 .i64 (7 : Int) (7 : Int) 7 rfl rfl rfl rfl ?c1 ?c2 ?c3 ?_)
    | fail)
  case c1 => rw [hz2]; omega
  case c2 => unfold maxLen; omega
  case c3 => omega
  intro u0 hown hgr
  have hx0 : Ext w u0 := Below.grown (Below.refl _ _) hgr (Nat.le_refl _) (fun k h => by cases h)
  have hB0 := row_made hown
  have F0 : FL u0 w.heap.size [] [] := FL.nil _ _
  clear hown hgr
  have c0 := hx0.cell H0.out
  go_wp2_with fail
  go_at_call 90
  refine (parse_field (mk a) 0 59 _ [] _ (by rw [size_mk]; omega) (by omega) (by omega) (World.ownsRow_nil _ _ _ _) (by simp) (hE.ext hx0)).mono ?_
  rintro en v0 ⟨⟨z0, p0, hz, rfl, hF⟩ | ⟨hz, t, p, rfl⟩, hx⟩
  · have hz' : fieldO [] 0 59 a = some z0 := hz
    have HO0 : Hid (buildO [a, b, c, d, e, f, g] = ((match fieldO [] 0 59 b with | none => none | some B => (match fieldO [] 0 23 c with | none => none | some C => (match domO [] 1 31 d with | none => none | some (D, dn) => (match fieldO monthN 1 12 e with | none => none | some E => (match dowO dayN 1 7 f with | none => none | some (F, wn) => (match fieldO [] 1970 3940 g with | none => none | some G => some [(z0, 0), (B, 0), (C, 0), (D, dn), (E, 0), ((F).map dec1, wn), (G, 0)])))))) : Option (List (List Int × Int)))) := by
      show _ = _
      unfold buildO; simp only [hz']
    obtain ⟨N0, rfl⟩ := hF.ptr
    have hBv := (Below.block hx w.heap.size (block_lt hB0)).trans hB0
    have ckv := row_cell (k := 0) hBv rfl
    have fkv := row_frozen (k := 0) hBv
    have Fv := (F0.ext hx).snoc (hF.mono (Below.size hx0))
    have c1 := (hx0.trans hx).cell H1.out
    obtain ⟨u1, hu1⟩ : ∃ x, x = v0.setCell ⟨w.heap.size, 0, none⟩ (.pointer (some ⟨N0, 0, none⟩)) := ⟨_, rfl⟩
    have hx1 : Ext w u1 := by rw [hu1]; exact (hx0.trans hx).set (Nat.le_refl _) _ _
    have hB1 := set_row (k := 0) (u := .pointer (some ⟨N0, 0, none⟩)) hBv
    have F1 := Fv.but hBv (But.set w.heap.size v0 0 (.pointer (some ⟨N0, 0, none⟩)))
    rw [← hu1] at hB1 F1
    simp only [List.setIfInBounds_toArray, List.set_cons_zero, List.set_cons_succ, List.nil_append, List.cons_append] at hB1 F1
    clear hz hz' hF hBv Fv F0 hB0 c0
    go_wp2_with fail
    rw [← hu1]
    clear hu1 c1 ckv fkv
    go_at_call 90
    refine (parse_field (mk b) 0 59 _ [] _ (by rw [size_mk]; omega) (by omega) (by omega) (World.ownsRow_nil _ _ _ _) (by simp) (hE.ext hx1)).mono ?_
    rintro en v1 ⟨⟨z1, p1, hz, rfl, hF⟩ | ⟨hz, t, p, rfl⟩, hx⟩
    · have hz' : fieldO [] 0 59 b = some z1 := hz
      have HO1 : Hid (buildO [a, b, c, d, e, f, g] = ((match fieldO [] 0 23 c with | none => none | some C => (match domO [] 1 31 d with | none => none | some (D, dn) => (match fieldO monthN 1 12 e with | none => none | some E => (match dowO dayN 1 7 f with | none => none | some (F, wn) => (match fieldO [] 1970 3940 g with | none => none | some G => some [(z0, 0), (z1, 0), (C, 0), (D, dn), (E, 0), ((F).map dec1, wn), (G, 0)]))))) : Option (List (List Int × Int)))) := by
        show _ = _
        rw [HO0.out]; simp only [hz']
      obtain ⟨N1, rfl⟩ := hF.ptr
      have hBv := (Below.block hx w.heap.size (block_lt hB1)).trans hB1
      have ckv := row_cell (k := 1) hBv rfl
      have fkv := row_frozen (k := 1) hBv
      have Fv := (F1.ext hx).snoc (hF.mono (Below.size hx1))
      have c2 := (hx1.trans hx).cell H2.out
      obtain ⟨u2, hu2⟩ : ∃ x, x = v1.setCell ⟨w.heap.size, 1, none⟩ (.pointer (some ⟨N1, 0, none⟩)) := ⟨_, rfl⟩
      have hx2 : Ext w u2 := by rw [hu2]; exact (hx1.trans hx).set (Nat.le_refl _) _ _
      have hB2 := set_row (k := 1) (u := .pointer (some ⟨N1, 0, none⟩)) hBv
      have F2 := Fv.but hBv (But.set w.heap.size v1 1 (.pointer (some ⟨N1, 0, none⟩)))
      rw [← hu2] at hB2 F2
      simp only [List.setIfInBounds_toArray, List.set_cons_zero, List.set_cons_succ, List.nil_append, List.cons_append] at hB2 F2
      clear hz hz' hF hBv Fv F1 hB1 
      go_wp2_with fail
      rw [← hu2]
      clear hu2 c2 ckv fkv
      go_at_call 90
      refine (parse_field (mk c) 0 23 _ [] _ (by rw [size_mk]; omega) (by omega) (by omega) (World.ownsRow_nil _ _ _ _) (by simp) (hE.ext hx2)).mono ?_
      rintro en v2 ⟨⟨z2, p2, hz, rfl, hF⟩ | ⟨hz, t, p, rfl⟩, hx⟩
      · have hz' : fieldO [] 0 23 c = some z2 := hz
        have HO2 : Hid (buildO [a, b, c, d, e, f, g] = ((match domO [] 1 31 d with | none => none | some (D, dn) => (match fieldO monthN 1 12 e with | none => none | some E => (match dowO dayN 1 7 f with | none => none | some (F, wn) => (match fieldO [] 1970 3940 g with | none => none | some G => some [(z0, 0), (z1, 0), (z2, 0), (D, dn), (E, 0), ((F).map dec1, wn), (G, 0)])))) : Option (List (List Int × Int)))) := by
          show _ = _
          rw [HO1.out]; simp only [hz']
        obtain ⟨N2, rfl⟩ := hF.ptr
        have hBv := (Below.block hx w.heap.size (block_lt hB2)).trans hB2
        have ckv := row_cell (k := 2) hBv rfl
        have fkv := row_frozen (k := 2) hBv
        have Fv := (F2.ext hx).snoc (hF.mono (Below.size hx2))
        have c3 := (hx2.trans hx).cell H3.out
        obtain ⟨u3, hu3⟩ : ∃ x, x = v2.setCell ⟨w.heap.size, 2, none⟩ (.pointer (some ⟨N2, 0, none⟩)) := ⟨_, rfl⟩
        have hx3 : Ext w u3 := by rw [hu3]; exact (hx2.trans hx).set (Nat.le_refl _) _ _
        have hB3 := set_row (k := 2) (u := .pointer (some ⟨N2, 0, none⟩)) hBv
        have F3 := Fv.but hBv (But.set w.heap.size v2 2 (.pointer (some ⟨N2, 0, none⟩)))
        rw [← hu3] at hB3 F3
        simp only [List.setIfInBounds_toArray, List.set_cons_zero, List.set_cons_succ, List.nil_append, List.cons_append] at hB3 F3
        clear hz hz' hF hBv Fv F2 hB2 
        go_wp2_with fail
        rw [← hu3]
        clear hu3 c3 ckv fkv
        go_at_call 91
        refine (parse_dom (mk d) 1 31 _ [] _ (by rw [size_mk]; omega) (by omega) (by omega) (World.ownsRow_nil _ _ _ _) (by simp) (hE.ext hx3)).mono ?_
        rintro en v3 ⟨⟨z3, n3, p3, hz, rfl, hF⟩ | ⟨hz, t, p, rfl⟩, hx⟩
        · have hz' : domO [] 1 31 d = some (z3, n3) := hz
          have HO3 : Hid (buildO [a, b, c, d, e, f, g] = ((match fieldO monthN 1 12 e with | none => none | some E => (match dowO dayN 1 7 f with | none => none | some (F, wn) => (match fieldO [] 1970 3940 g with | none => none | some G => some [(z0, 0), (z1, 0), (z2, 0), (z3, n3), (E, 0), ((F).map dec1, wn), (G, 0)]))) : Option (List (List Int × Int)))) := by
            show _ = _
            rw [HO2.out]; simp only [hz']
          obtain ⟨N3, rfl⟩ := hF.ptr
          have hBv := (Below.block hx w.heap.size (block_lt hB3)).trans hB3
          have ckv := row_cell (k := 3) hBv rfl
          have fkv := row_frozen (k := 3) hBv
          have Fv := (F3.ext hx).snoc (hF.mono (Below.size hx3))
          have c4 := (hx3.trans hx).cell H4.out
          obtain ⟨u4, hu4⟩ : ∃ x, x = v3.setCell ⟨w.heap.size, 3, none⟩ (.pointer (some ⟨N3, 0, none⟩)) := ⟨_, rfl⟩
          have hx4 : Ext w u4 := by rw [hu4]; exact (hx3.trans hx).set (Nat.le_refl _) _ _
          have hB4 := set_row (k := 3) (u := .pointer (some ⟨N3, 0, none⟩)) hBv
          have F4 := Fv.but hBv (But.set w.heap.size v3 3 (.pointer (some ⟨N3, 0, none⟩)))
          rw [← hu4] at hB4 F4
          simp only [List.setIfInBounds_toArray, List.set_cons_zero, List.set_cons_succ, List.nil_append, List.cons_append] at hB4 F4
          clear hz hz' hF hBv Fv F3 hB3 
          go_wp2_with fail
          rw [← hu4]
          clear hu4 ckv fkv
          have hd4 := hx4.trans (Ext.drew u4)
          have cd4 := hd4.cell H4.out
          have hBd : u4.drew.heap[w.heap.size]? = _ := hB4
          have Hd4 := Lib.hid hd4
          have HBd := Lib.hid hBd
          have HF4 := Lib.hid F4
          clear hd4 hBd c4 hB4 F4
          go_region_with (first
            | (go_at_call 92
               refine (months_any _).mono ?_
               rintro en m ⟨mv, rfl, hms, hxm⟩
               obtain ⟨ma, mc, rfl⟩ := own_any hms
               have cm4 := hxm.cell cd4
               have Hm := Lib.hid hxm
               have Hms := Lib.hid hms.zero
               clear hms hxm)
            | (go_at_call 90
               refine (parse_field' (mk e) 1 12 _ monthN _ (by rw [size_mk]; omega) (by omega) (by omega) Hms.out (by decide) (hE.ext (Hd4.out.trans Hm.out))).mono ?_
               rintro en v4 ⟨P, ev, rfl, hor, hx⟩
               have hBv := (Below.block (Hm.out.trans hx) w.heap.size (block_lt HBd.out)).trans HBd.out
               have ckv := row_cell (k := 4) hBv rfl
               have fkv := row_frozen (k := 4) hBv
               have Hor := Lib.hid hor
               have Hx := Lib.hid hx
               have HBv := Lib.hid hBv
               clear hor hx hBv))
          all_goals
            rcases Hor.out with ⟨z4, hz, rfl, hF⟩ | ⟨hz, t, p, rfl, rfl⟩
            · have hz' : fieldO monthN 1 12 e = some z4 := hz
              have HO4 : Hid (buildO [a, b, c, d, e, f, g] = ((match dowO dayN 1 7 f with | none => none | some (F, wn) => (match fieldO [] 1970 3940 g with | none => none | some G => some [(z0, 0), (z1, 0), (z2, 0), (z3, n3), (z4, 0), ((F).map dec1, wn), (G, 0)])) : Option (List (List Int × Int)))) := by
                show _ = _
                rw [HO3.out]; simp only [hz']
              obtain ⟨N4, hp⟩ := hF.ptr
              injection hp with hp
              subst hp
              have hxv := (Hd4.out.trans Hm.out).trans Hx.out
              have c5 := hxv.cell H5.out
              obtain ⟨u5, hu5⟩ : ∃ x, x = v4.setCell ⟨w.heap.size, 4, none⟩ (.pointer (some ⟨N4, 0, none⟩)) := ⟨_, rfl⟩
              have hx5 : Ext w u5 := by rw [hu5]; exact hxv.set (Nat.le_refl _) _ _
              have hB5 := set_row (k := 4) (u := .pointer (some ⟨N4, 0, none⟩)) HBv.out
              have Fv := (((HF4.out.ext (Ext.drew u4)).ext Hm.out).ext Hx.out).snoc (hF.mono (Below.size (Hd4.out.trans Hm.out)))
              have F5 := Fv.but HBv.out (But.set w.heap.size v4 4 (.pointer (some ⟨N4, 0, none⟩)))
              rw [← hu5] at hB5 F5
              simp only [List.setIfInBounds_toArray, List.set_cons_zero, List.set_cons_succ, List.nil_append, List.cons_append] at hB5 F5
              clear hz hz' hF Fv HF4 hxv Hor Hx HBv Hm Hms cm4 cd4 Hd4 HBd
              go_wp2_with fail
              rw [← hu5]
              clear hu5 ckv fkv
              have hd5 := hx5.trans (Ext.drew u5)
              have cd5 := hd5.cell H5.out
              have hBd : u5.drew.heap[w.heap.size]? = _ := hB5
              have Hd5 := Lib.hid hd5
              have HBd := Lib.hid hBd
              have HF5 := Lib.hid F5
              clear hd5 hBd c5 hB5 F5
              go_region_with (first
                | (go_at_call 94
                   refine (days_any _).mono ?_
                   rintro en m ⟨mv, rfl, hms, hxm⟩
                   obtain ⟨ma, mc, rfl⟩ := own_any hms
                   have cm5 := hxm.cell cd5
                   have Hm := Lib.hid hxm
                   have Hms := Lib.hid hms.zero
                   clear hms hxm)
                | (go_at_call 93
                   refine (parse_dow' (mk f) 1 7 _ dayN _ (by rw [size_mk]; omega) (by omega) (by omega) Hms.out (by decide) (hE.ext (Hd5.out.trans Hm.out))).mono ?_
                   rintro en v5 ⟨P, ev, rfl, hor, hx⟩
                   have hBv := (Below.block (Hm.out.trans hx) w.heap.size (block_lt HBd.out)).trans HBd.out
                   have ckv := row_cell (k := 5) hBv rfl
                   have fkv := row_frozen (k := 5) hBv
                   have Hor := Lib.hid hor
                   have Hx := Lib.hid hx
                   have HBv := Lib.hid hBv
                   clear hor hx hBv))
              all_goals
                rcases Hor.out with ⟨z5, n5, hz, rfl, hF⟩ | ⟨hz, t, p, rfl, rfl⟩
                · have hz' : dowO dayN 1 7 f = some (z5, n5) := hz
                  have HO5 : Hid (buildO [a, b, c, d, e, f, g] = ((match fieldO [] 1970 3940 g with | none => none | some G => some [(z0, 0), (z1, 0), (z2, 0), (z3, n3), (z4, 0), ((z5).map dec1, n5), (G, 0)]) : Option (List (List Int × Int)))) := by
                    show _ = _
                    rw [HO4.out]; simp only [hz']
                  obtain ⟨N5, hp⟩ := hF.ptr
                  injection hp with hp
                  subst hp
                  have hxv := (Hd5.out.trans Hm.out).trans Hx.out
                  have c6 := hxv.cell H6.out
                  obtain ⟨u6, hu6⟩ : ∃ x, x = v5.setCell ⟨w.heap.size, 5, none⟩ (.pointer (some ⟨N5, 0, none⟩)) := ⟨_, rfl⟩
                  have hx6 : Ext w u6 := by rw [hu6]; exact hxv.set (Nat.le_refl _) _ _
                  have hB6 := set_row (k := 5) (u := .pointer (some ⟨N5, 0, none⟩)) HBv.out
                  have G5 := Field.but hF HBv.out (But.set w.heap.size v5 5 (.pointer (some ⟨N5, 0, none⟩)))
                  have hbut : But w.heap.size u5 u6 := by rw [hu6]; exact (But.ext (((Ext.drew u5).trans Hm.out).trans Hx.out)).trans (But.set _ _ _ _)
                  have hbase : u5.heap.size ≤ m.heap.size := ((Ext.drew u5).trans Hm.out).size
                  have hBlt : w.heap.size < m.heap.size := by have := block_lt HBd.out; have := Below.size Hm.out; omega
                  have hbw : w.heap.size ≤ m.heap.size := by omega
                  have hlen := dowO_len hz' lf
                  rw [← hu6] at hB6 G5
                  simp only [List.setIfInBounds_toArray, List.set_cons_zero, List.set_cons_succ, List.nil_append, List.cons_append] at hB6
                  have HB5' := Lib.hid HBd.out
                  clear hz hz' hF hxv Hor Hx HBv Hms cm5 cd5 Hd5
                  go_wp2_with fail
                  rw [← hu6]
                  clear hu6 ckv fkv c6
                  go_at_call 95
                  refine (add_any _ m.heap.size z5 n5 _ G5 hlen).mono ?_
                  rintro en y ⟨rfl, hF5, hbel⟩
                  have hxy : Ext w y := Below.trans hx6 (Below.mono hbel hbw)
                  have hBy := (hbel.block w.heap.size hBlt).trans hB6
                  have FLy := (HF5.out.but HB5'.out (hbut.below hbel hbase)).snoc (hF5.mono hbw)
                  have c6 := hxy.cell H6.out
                  simp only [List.setIfInBounds_toArray, List.set_cons_zero, List.set_cons_succ, List.nil_append, List.cons_append] at FLy
                  clear hF5 hbel hB6 HF5 HB5' hbut hbase hBlt hbw hlen G5 Hm HBd
                  go_wp2_with fail
                  go_at_call 90
                  refine (parse_field (mk g) 1970 3940 _ [] _ (by rw [size_mk]; omega) (by omega) (by omega) (World.ownsRow_nil _ _ _ _) (by simp) (hE.ext hxy)).mono ?_
                  rintro en v6 ⟨⟨z6, p6, hz, rfl, hF⟩ | ⟨hz, t, p, rfl⟩, hx⟩
                  · have hz' : fieldO [] 1970 3940 g = some z6 := hz
                    have HO6 : Hid (buildO [a, b, c, d, e, f, g] = (some [(z0, 0), (z1, 0), (z2, 0), (z3, n3), (z4, 0), ((z5).map dec1, n5), (z6, 0)] : Option (List (List Int × Int)))) := by
                      show _ = _
                      rw [HO5.out]; simp only [hz']
                    obtain ⟨N6, rfl⟩ := hF.ptr
                    have hBv := (Below.block hx w.heap.size (block_lt hBy)).trans hBy
                    have ckv := row_cell (k := 6) hBv rfl
                    have fkv := row_frozen (k := 6) hBv
                    have Fv := (FLy.ext hx).snoc (hF.mono (Below.size hxy))
                    have hB7 := set_row (k := 6) (u := .pointer (some ⟨N6, 0, none⟩)) hBv
                    have F7 := Fv.but hBv (But.set w.heap.size v6 6 (.pointer (some ⟨N6, 0, none⟩)))
                    simp only [List.setIfInBounds_toArray, List.set_cons_zero, List.set_cons_succ, List.nil_append, List.cons_append] at hB7 F7
                    have HB7 := Lib.hid hB7
                    have HF7 := Lib.hid F7
                    clear hz hz' hF hBv Fv hB7 F7 FLy hBy c6
                    go_wp2_with fail
                    go_ret2
                    exact ⟨.inl ⟨_, _, HO6.out, rfl, w.heap.size, _, rfl, Nat.le_refl _, HB7.out, rfl, HF7.out⟩, (hxy.trans hx).set (Nat.le_refl _) _ _⟩
                  · have hz' : fieldO [] 1970 3940 g = none := hz
                    have HO : Hid (buildO [a, b, c, d, e, f, g] = none) := by
                      show _ = _
                      rw [HO5.out]; simp only [hz']
                    have hBv := (Below.block hx w.heap.size (block_lt hBy)).trans hBy
                    have ckv := row_cell (k := 6) hBv rfl
                    have fkv := row_frozen (k := 6) hBv
                    clear hz hz' FLy hBy hBv
                    go_wp2_with fail
                    go_ret2
                    exact ⟨.inr ⟨HO.out, t, p, rfl⟩, (hxy.trans hx).set (Nat.le_refl _) _ _⟩
                · have hz' : dowO dayN 1 7 f = none := hz
                  have HO : Hid (buildO [a, b, c, d, e, f, g] = none) := by
                    show _ = _
                    rw [HO4.out]; simp only [hz']
                  have hxv := (Hd5.out.trans Hm.out).trans Hx.out
                  clear hz hz' HF5
                  go_wp2_with fail
                  go_ret2
                  exact ⟨.inr ⟨HO.out, t, p, rfl⟩, hxv.set (Nat.le_refl _) _ _⟩
            · have hz' : fieldO monthN 1 12 e = none := hz
              have HO : Hid (buildO [a, b, c, d, e, f, g] = none) := by
                show _ = _
                rw [HO3.out]; simp only [hz']
              have hxv := (Hd4.out.trans Hm.out).trans Hx.out
              clear hz hz' HF4
              go_wp2_with fail
              go_ret2
              exact ⟨.inr ⟨HO.out, t, p, rfl⟩, hxv.set (Nat.le_refl _) _ _⟩
        · have hz' : domO [] 1 31 d = none := hz
          have HO : Hid (buildO [a, b, c, d, e, f, g] = none) := by
            show _ = _
            rw [HO2.out]; simp only [hz']
          have hBv := (Below.block hx w.heap.size (block_lt hB3)).trans hB3
          have ckv := row_cell (k := 3) hBv rfl
          have fkv := row_frozen (k := 3) hBv
          clear hz hz' F3 hB3 hBv
          go_wp2_with fail
          go_ret2
          exact ⟨.inr ⟨HO.out, t, p, rfl⟩, (hx3.trans hx).set (Nat.le_refl _) _ _⟩
      · have hz' : fieldO [] 0 23 c = none := hz
        have HO : Hid (buildO [a, b, c, d, e, f, g] = none) := by
          show _ = _
          rw [HO1.out]; simp only [hz']
        have hBv := (Below.block hx w.heap.size (block_lt hB2)).trans hB2
        have ckv := row_cell (k := 2) hBv rfl
        have fkv := row_frozen (k := 2) hBv
        clear hz hz' F2 hB2 hBv
        go_wp2_with fail
        go_ret2
        exact ⟨.inr ⟨HO.out, t, p, rfl⟩, (hx2.trans hx).set (Nat.le_refl _) _ _⟩
    · have hz' : fieldO [] 0 59 b = none := hz
      have HO : Hid (buildO [a, b, c, d, e, f, g] = none) := by
        show _ = _
        rw [HO0.out]; simp only [hz']
      have hBv := (Below.block hx w.heap.size (block_lt hB1)).trans hB1
      have ckv := row_cell (k := 1) hBv rfl
      have fkv := row_frozen (k := 1) hBv
      clear hz hz' F1 hB1 hBv
      go_wp2_with fail
      go_ret2
      exact ⟨.inr ⟨HO.out, t, p, rfl⟩, (hx1.trans hx).set (Nat.le_refl _) _ _⟩
  · have hz' : fieldO [] 0 59 a = none := hz
    have HO : Hid (buildO [a, b, c, d, e, f, g] = none) := by
      show _ = _
      unfold buildO; simp only [hz']
    have hBv := (Below.block hx w.heap.size (block_lt hB0)).trans hB0
    have ckv := row_cell (k := 0) hBv rfl
    have fkv := row_frozen (k := 0) hBv
    clear hz hz' F0 hB0 hBv
    go_wp2_with fail
    go_ret2
    exact ⟨.inr ⟨HO.out, t, p, rfl⟩, (hx0.trans hx).set (Nat.le_refl _) _ _⟩
end Go.Proofs.YtmaffdhcmdhjfaaGreatDoor
