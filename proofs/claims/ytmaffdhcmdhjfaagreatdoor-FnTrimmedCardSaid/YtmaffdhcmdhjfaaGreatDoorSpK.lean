/- spec.Numbers. -/
import Derived.Test.YtmaffdhcmdhjfaaGreatDoorSpJ
namespace Go.Proofs.YtmaffdhcmdhjfaaGreatDoor
open Go.RowKit Go.Lib

def PartV.nums (f : Nat) (p : PartV) : List Int := numsP f p.k p.a p.b p.s p.items
/-- the numbers of field i -/
def CronV.numsAt (c : CronV) (i : Nat) : List Int :=
  if i = 5 then ((c.p 5).nums 5).map dec1 else if i = 6 ∧ c.six = true then [] else (c.p i).nums i
def CronV.nums (c : CronV) (k : Nat) : List (List Int) := (List.range k).map c.numsAt
theorem nums_succ (c : CronV) (k : Nat) : c.nums (k + 1) = c.nums k ++ [c.numsAt k] := by simp [CronV.nums, List.range_succ]

theorem right_plain {f : Nat} {p : PartV} (h : p.rightB f = true) : (p.n = 0 ∨ p.n = 1 ∨ p.n = 2) ∧ ((p.k = 2 ∨ p.k = 3 ∨ p.k = 4 ∨ p.k = 5 ∨ p.k = 6) → Simple f p.k p.a p.b p.s p.n) := by
  unfold PartV.rightB YtmaffdhcmdhjfaaGreatDoor.rightB at h
  by_cases hn0 : p.n < 0
  · rw [if_pos hn0] at h; cases h
  · by_cases hn2 : 2 < p.n
    · rw [if_neg hn0, if_pos hn2] at h; cases h
    · rw [if_neg hn0, if_neg hn2] at h
      refine ⟨by omega, fun hk => ⟨?_, by omega⟩⟩
      rw [if_neg (by omega), if_neg (by omega), if_neg (by omega), if_neg (by omega), if_neg (by omega), if_neg (by omega), if_neg (by omega), if_neg (by omega), if_neg (by omega)] at h
      exact h

theorem numbers_part (f : Nat) (hf : f < 7) (p : PartV) (hp : p.rightB f = true) (w : World) (hI : ItemsAt w p.ia p.items) :
    Calls Tryz.prog 42 #[.int .i64 f, .agg #[.int .i64 p.k, .int .i64 p.a, .int .i64 p.b, .int .i64 p.s, .int .i64 p.n, .slice p.ia p.items.length p.cap]] w (NumPost w (p.nums f)) := by
  have hli := right_items hp
  have hpl := (right_plain hp).2
  obtain ⟨k, a, b, s, n, ia, cap, items⟩ := p
  simp only at hI hli hpl
  unfold PartV.nums numsP
  simp only
  by_cases h7 : k = 7
  · subst h7
    rw [if_pos rfl]
    obtain ⟨h1, h2⟩ := hli rfl
    exact numbers_list f hf a b s n ia cap items h1 h2 w hI
  · rw [if_neg h7]
    by_cases hk : k = 2 ∨ k = 3 ∨ k = 4 ∨ k = 5 ∨ k = 6
    · exact numbers_simple f hf k a b s n _ (hpl hk) w
    · exact numbers_none f hf k a b s n _ (by omega) (by omega) (by omega) (by omega) (by omega) h7 w

theorem flat_len (f : Nat) : ∀ items : List Atom, (∀ x ∈ items, x.ok f) → (items.flatMap (Atom.nums f)).length ≤ items.length * 4001
  | [], _ => by simp
  | x :: xs, h => by
    have h1 := flat_len f xs (fun y hy => h y (by simp [hy]))
    have h2 : (x.nums f).length ≤ 4001 := (numsA_len (h x (by simp))).2
    simp only [List.flatMap_cons, List.length_append, List.length_cons]
    omega
theorem nums_len {f : Nat} {p : PartV} (hp : p.rightB f = true) : (p.nums f).length ≤ 30000 := by
  have hli := right_items hp
  have hpl := (right_plain hp).2
  unfold PartV.nums numsP
  by_cases h7 : p.k = 7
  · rw [if_pos h7]
    obtain ⟨h1, h2⟩ := hli h7
    have := flat_len f p.items h1.ok
    have hs : (sortL (p.items.flatMap (Atom.nums f))).length = (p.items.flatMap (Atom.nums f)).length := by simp [sortL]
    omega
  · rw [if_neg h7]
    by_cases hk : p.k = 2 ∨ p.k = 3 ∨ p.k = 4 ∨ p.k = 5 ∨ p.k = 6
    · have := (numsA_len (hpl hk)).2; omega
    · unfold numsA
      rw [if_neg (by omega), if_neg (by omega), if_neg (by omega), if_neg (by omega), if_neg (by omega)]
      simp

structure NumsOk (c : CronV) : Prop where
  right : ∀ j, j < 7 → (c.p j).rightB j = true

/-- what Numbers gives -/
def RowsPost (w : World) (ls : List (List Int)) (en : Ending) (w' : World) : Prop := ∃ v, en = .returned v ∧ IntRows w' w.heap.size v ls ∧ Ext w w'

theorem lit_ints (w : World) (base : Nat) (hb : base ≤ w.heap.size) : Ints (w.alloc (.cells #[] 3)) base (.slice (some ⟨w.heap.size, 0, none⟩) 0 0) [] :=
  World.ownsRow_lit w (e := 3) (size := 1) #[] 0 hb (by decide) rfl
theorem lit_rows (w : World) (base : Nat) (hb : base ≤ w.heap.size) : IntRows (w.alloc (.cells #[] 38)) base (.slice (some ⟨w.heap.size, 0, none⟩) 0 0) [] :=
  ⟨[], World.ownsRow_lit w (e := 38) (size := 1) #[] 0 hb (by decide) rfl, fun i x l h => by simp at h⟩

set_option maxHeartbeats 6400000 in
set_option maxRecDepth 1000000 in
theorem numbers_cron (c : CronV) (hO : NumsOk c) (w : World) (hI : CronItems w c) :
    Calls Tryz.prog 19 #[.agg c.cells] w (RowsPost w (c.nums 7)) := by
  obtain ⟨i0, hi0, hz0, hz1, hz2⟩ := info_parts Tryz.info38
  obtain ⟨six, hsix⟩ : ∃ six, six = c.six := ⟨_, rfl⟩
  have HSIX := Lib.hid hsix
  have HC : Hid (CronAt (w.alloc (.cells c.cells 27)) w.heap.size c) := cron_alloc w c
  have HX : Hid (Ext w (w.alloc (.cells c.cells 27))) := Ext.alloc _ _
  have H42 : Hid ((w.alloc (.cells c.cells 27)).cell? ⟨w.heap.size, 42, none⟩ = some (.bool six)) := by rw [hsix]; exact HC.out.six
  have HI := Lib.hid hI
  have HO := Lib.hid hO
  have hR0 := lit_rows (w.alloc (.cells c.cells 27)) (w.heap.size + 1) (by simp)
  have hsz0 : (w.alloc (.cells c.cells 27)).heap.size = w.heap.size + 1 := by simp
  rw [hsz0] at hR0
  have HR0 := Lib.hid hR0
  have HX0 : Hid (Ext (w.alloc (.cells c.cells 27)) ((w.alloc (.cells c.cells 27)).alloc (.cells #[] 38))) := Ext.alloc _ _
  have HSZ := Lib.hid hsz0
  clear hsix hI hO hR0 hsz0
  go_enter Tryz.func19, Tryz.ntmps19
  go_wp2_with fail
  go_loopw [3, 4, 5, 6] (fun v i _ _ wr => ∃ (k : Nat) (ls : List (List Int)), k ≤ 7 ∧ i = .int .i64 k ∧ ls.length = k ∧ Hid (ls = c.nums k) ∧ Hid (IntRows wr (w.heap.size + 1) v ls) ∧ Hid (Ext (w.alloc (.cells c.cells 27)) wr))
    (fun _ i _ _ _ => 7 - (RowKit.intOf i).toNat)
  case atStart => exact ⟨0, [], Nat.zero_le _, rfl, rfl, rfl, HR0.out, HX0.out⟩
  case round =>
    obtain ⟨k, ls, hk, rfl, hll, HL, HR, Hx⟩ := hrel
    by_cases hlt : k < 7
    · have CA := HC.out.ext Hx.out
      have d0 := CA.k k hlt
      have d1 := CA.a k hlt
      have d2 := CA.b k hlt
      have d3 := CA.s k hlt
      have d4 := CA.n k hlt
      have d5 := CA.it k hlt
      have c42 : wr.cell? ⟨w.heap.size, 42, none⟩ = some (.bool six) := Hx.out.cell H42.out
      have hp := HO.out.right k hlt
      obtain ⟨qs, hqs⟩ : ∃ qs, qs = (c.p k).nums k := ⟨_, rfl⟩
      have hql : qs.length ≤ 30000 := by rw [hqs]; exact nums_len hp
      have HCX : Hid (∀ W, Ext w W → Calls Tryz.prog 42 #[.int .i64 k, .agg #[.int .i64 (c.p k).k, .int .i64 (c.p k).a, .int .i64 (c.p k).b, .int .i64 (c.p k).s, .int .i64 (c.p k).n, .slice (c.p k).ia (c.p k).items.length (c.p k).cap]] W (NumPost W qs)) := fun W hW => by
        rw [hqs]; exact numbers_part k hlt (c.p k) hp W ((HI.out k hlt).ext hW)
      have HNA : Hid (c.numsAt k = if k = 5 then qs.map dec1 else if k = 6 ∧ six = true then [] else qs) := by
        show _ = _
        unfold CronV.numsAt
        rw [HSIX.out, hqs]
        by_cases h5 : k = 5
        · subst h5; rfl
        · rw [if_neg h5, if_neg h5]
      have HNS : Hid (c.nums (k + 1) = ls ++ [c.numsAt k]) := by show _ = _; rw [nums_succ, ← HL.out]
      have HXX := Lib.hid (HX.out.trans Hx.out)
      have hszr : w.heap.size + 1 ≤ wr.heap.size := by have := Below.size Hx.out; rw [HSZ.out] at this; exact this
      generalize c.p k = pk at d0 d1 d2 d3 d4 d5 HCX
      clear hp hqs CA
      obtain ⟨q0, q1, q2, q3, q4, q5, q6, q7⟩ := pk
      obtain ⟨L8, hL8⟩ : ∃ L8, L8 = q7.length := ⟨_, rfl⟩
      simp only at d0 d1 d2 d3 d4 d5 HCX
      rw [← hL8] at d5 HCX
      clear hL8
      obtain ⟨xs, hown, hint⟩ := HR.out
      obtain ⟨av, capv, hav⟩ := own_any hown
      rw [hll] at hown hav
      rw [hav] at hown
      subst hav
      have HOW := Lib.hid hown
      have HIN := Lib.hid hint
      clear hown hint HR
      have he := lit_ints wr (w.heap.size + 1) hszr
      have HE0 := Lib.hid he
      have HXE : Hid (Ext wr (wr.alloc (.cells #[] 3))) := Ext.alloc _ _
      clear he
      have d0 := HXE.out.cell d0
      have d1 := HXE.out.cell d1
      have d2 := HXE.out.cell d2
      have d3 := HXE.out.cell d3
      have d4 := HXE.out.cell d4
      have d5 := HXE.out.cell d5
      have c42 := HXE.out.cell c42
      by_cases h5 : k = 5
      · skip
        subst h5
        go_wp2_with fail
        go_at_call 42
        refine (HCX.out _ (HXX.out.trans HXE.out)).mono ?_
        rintro e w7 ⟨v7, rfl, hI7, x7⟩
        have hI7' : Ints w7 (wr.heap.size + 1) v7 qs := hI7.mono (by simp)
        have hform : 0 < qs.length → ∃ g cap, v7 = .slice (some ⟨g, 0, none⟩) qs.length cap ∧ wr.heap.size + 1 ≤ g := fun h => by
          obtain ⟨g, cap, h1, h2, _⟩ := hI7'.form h
          exact ⟨g, cap, h1, h2⟩
        obtain ⟨al, cl, hal⟩ := own_any hI7'
        rw [hal] at hform hI7'
        subst hal
        have HI7 := Lib.hid hI7'
        obtain ⟨ml, hml⟩ : ∃ ml, ml = qs.length := ⟨_, rfl⟩
        have hform2 : 0 < ml → ∃ g, al = some ⟨g, 0, none⟩ ∧ wr.heap.size + 1 ≤ g := fun h => by
          obtain ⟨g, cap, h1, h2⟩ := hform (by omega)
          injection h1 with h1 _ _
          exact ⟨g, h1, h2⟩
        have HM := Lib.hid hml
        have hmb : ml ≤ 30000 := by omega
        rw [← hml]
        have X7 := Lib.hid (HXE.out.trans x7)
        have hs7 : wr.heap.size + 1 ≤ w7.heap.size := by have := Below.size x7; simpa using this
        clear hI7 hI7' x7 hml d0 d1 d2 d3 d4 d5 c42 hform
        go_wp2_with fail
        obtain ⟨wo, rfl⟩ : ∃ wo : World, wo = wr := ⟨_, rfl⟩
        go_loopw [6] (fun i w8 => ∃ j : Nat, j ≤ ml ∧ i = .int .i64 j ∧ Hid (Ints w8 (wo.heap.size + 1) (.slice al ml cl) (addAt qs j)) ∧ Hid (Below (wo.heap.size + 1) w7 w8))
          (fun i _ => ml - (RowKit.intOf i).toNat)
        case atStart => exact ⟨0, Nat.zero_le _, rfl, by show Ints _ _ _ _; unfold addAt; rw [HM.out]; simpa using HI7.out, Below.refl _ _⟩
        case round =>
          obtain ⟨j, hj, rfl, HJ, HB⟩ := hrel
          by_cases hjl : j < ml
          · obtain ⟨g, rfl, hg1⟩ := hform2 (by omega)
            obtain ⟨x, hxx⟩ : ∃ x, qs[j]? = some x := ⟨_, List.getElem?_eq_getElem (by rw [← HM.out]; exact hjl)⟩
            have hg := addAt_get qs j x hxx
            have hI := HJ.out
            have hlen := addAt_len qs j
            unfold Ints at hI
            rw [hlen, ← HM.out] at hI
            have hck : wr.cell? ⟨g, j, none⟩ = some (.int .i64 x) := by
              rw [hI.cellAt j (by omega), ints, List.getElem?_map, hg.1]; rfl
            have hfk := hI.frozenAt j
            have Hst := Lib.hid (hI.stored j (.int .i64 (dec1 x)))
            have hw : IntKind.i64.wrap (x - 1) = dec1 x := rfl
            have Hg := Lib.hid hg.2
            clear hI hg hlen hxx
            go_wp2_with fail
            go_roundw
            case rel => exact ⟨j + 1, by omega, by go_num, by rw [← Hg.out]; show World.ownsRow _ _ _ _ _ _ _; rw [List.length_set, addAt_len, ← HM.out]; simpa [ints, List.map_set] using Hst.out.1, Below.setCell HB.out (p := ⟨g, j, none⟩) hg1 _⟩
            case measure => simp [RowKit.intOf] <;> omega
          · have HI8 : Hid (Ints wr (w.heap.size + 1) (.slice al ml cl) (qs.map dec1)) := by
              have hkn : addAt qs j = qs.map dec1 := by
                have := HM.out
                unfold addAt
                rw [List.take_of_length_le (by omega), List.drop_of_length_le (by omega), List.append_nil]
              have := HJ.out
              rw [hkn] at this
              exact this.mono (by omega)
            have X8 : Hid (Ext wo wr) := Below.trans X7.out (Below.mono HB.out (by omega))
            have own8 := own_ext X8.out HOW.out
            have HIN8 : ∀ (i : Nat) (x : Value) (l : List Int), xs[i]? = some x → ls[i]? = some l → Ints wr (w.heap.size + 1) x l := fun i x l p q => (HIN.out i x l p q).ext X8.out
            have HIN8 := Lib.hid HIN8
            have hs8 := Below.size X8.out
            clear HJ HB
            go_wp2_with (first
              | (at_builtin; refine wpList_append_own _ rfl _ _ 30 rfl (w.heap.size + 1) 38 i0 (.slice none 0 0) 1 24 Tryz.underlying30 hi0 hz0 hz1 hz2 rfl (by decide) _ _ _ rfl (own8.alloc _) ⟨wr.heap.size, 0, none⟩ 1 1 [(.slice al ml cl)] rfl rfl ?c1c ?c2c ?c3c ?c4c ?c5c ?_)
              | go_in)
            try (case c1c => exact cell_one_new _ _ _)
            try (case c2c => first | rfl | (intro u hu; simp at hu; subst hu; rfl))
            try (case c3c => unfold maxLen; omega)
            try (case c4c => omega)
            try (case c5c => first | omega | (simp; omega))
            intro v' w9 hown' hgrow _
            have A1 : Hid (IntRows w9 (w.heap.size + 1) v' (ls ++ [qs.map dec1])) := IntRows.snoc (w := wr) (by rw [hll]; exact own8) HIN8.out HI8.out (by rw [hll]; exact hown') hgrow
            have A4 : Hid (Ext (w.alloc (.cells c.cells 27)) w9) := by
              have hx8 := Hx.out.trans X8.out
              refine Below.grown (Below.alloc hx8 (Below.size hx8) (.cells #[(.slice al ml cl)] 38)) hgrow (by have := Below.size hx8; simp at this ⊢; omega) (fun q hq => ?_)
              have := ((own8.alloc (.cells #[(.slice al ml cl)] 38)).lt q hq).1
              simp; omega
            have HN : Hid (ls ++ [qs.map dec1] = c.nums (5 + 1)) := by show _ = _; rw [HNS.out, HNA.out]; simp
            clear hown' hgrow
            go_wp2_with fail
            go_roundw
            case rel => exact ⟨5 + 1, ls ++ [qs.map dec1], by omega, by go_num, by simp; omega, HN, A1, A4⟩
            case measure => simp [RowKit.intOf] <;> omega
      · by_cases h6 : k = 6 ∧ six = true
        · skip
          obtain ⟨rfl, rfl⟩ := h6
          have ownE := HOW.out.alloc (.cells #[] 3)
          have HINE : ∀ (i : Nat) (x : Value) (l : List Int), xs[i]? = some x → ls[i]? = some l → Ints (wr.alloc (.cells #[] 3)) (w.heap.size + 1) x l := fun i x l p q => (HIN.out i x l p q).ext (Ext.alloc _ _)
          have HINE := Lib.hid HINE
          go_wp2_with (first
            | (at_builtin; refine wpList_append_own _ rfl _ _ 30 rfl (w.heap.size + 1) 38 i0 (.slice none 0 0) 1 24 Tryz.underlying30 hi0 hz0 hz1 hz2 rfl (by decide) _ _ _ rfl (ownE.alloc _) ⟨wr.heap.size + 1, 0, none⟩ 1 1 [(.slice (some ⟨wr.heap.size, 0, none⟩) 0 0)] rfl rfl ?c1b ?c2b ?c3b ?c4b ?c5b ?_)
            | go_in)
          try (case c1b => exact cell_one_new _ _ _)
          try (case c2b => first | rfl | (intro u hu; simp at hu; subst hu; rfl))
          try (case c3b => unfold maxLen; omega)
          try (case c4b => omega)
          try (case c5b => first | omega | (simp; omega))
          intro v' w9 hown' hgrow _
          have A1 : Hid (IntRows w9 (w.heap.size + 1) v' (ls ++ [[]])) := IntRows.snoc (w := (wr.alloc (.cells #[] 3))) (by rw [hll]; exact ownE) HINE.out HE0.out (by rw [hll]; exact hown') hgrow
          have A4 : Hid (Ext (w.alloc (.cells c.cells 27)) w9) := by
            have hx8 := Hx.out.trans HXE.out
            refine Below.grown (Below.alloc hx8 (Below.size hx8) (.cells #[(.slice (some ⟨wr.heap.size, 0, none⟩) 0 0)] 38)) hgrow (by have := Below.size hx8; simp at this ⊢; omega) (fun q hq => ?_)
            have := ((ownE.alloc (.cells #[(.slice (some ⟨wr.heap.size, 0, none⟩) 0 0)] 38)).lt q hq).1
            simp; omega
          have HN : Hid (ls ++ [[]] = c.nums (6 + 1)) := by show _ = _; rw [HNS.out, HNA.out]; rw [if_neg (by decide), if_pos (by simp)]
          clear hown' hgrow
          go_wp2_with fail
          go_roundw
          case rel => exact ⟨6 + 1, ls ++ [[]], by omega, by go_num, by simp; omega, HN, A1, A4⟩
          case measure => simp [RowKit.intOf] <;> omega
        · skip
          have hb5 : ((k : Int) == 5) = false := by rw [beq_eq_false_iff_ne]; omega
          have hx7 : (k : Int) < 6 ∨ (k = 6 ∧ six = false) := by
            by_cases h : k = 6
            · exact .inr ⟨h, by rcases six; · rfl
                                · exact absurd ⟨h, rfl⟩ h6⟩
            · exact .inl (by omega)
          rcases hx7 with hx7 | ⟨rfl, hx7⟩
          · skip
            go_wp2_with fail
            go_at_call 42
            refine (HCX.out _ (HXX.out.trans HXE.out)).mono ?_
            rintro e w7 ⟨v7, rfl, hI7, x7⟩
            have hI7' : Ints w7 (w.heap.size + 1) v7 qs := hI7.mono (by simp; omega)
            obtain ⟨al, cl, hal⟩ := own_any hI7'
            obtain ⟨ml, hml⟩ : ∃ ml, ml = qs.length := ⟨_, rfl⟩
            rw [← hml] at hal
            subst hal
            have HI7 := Lib.hid hI7'
            have X7 := Lib.hid (HXE.out.trans x7)
            have own7 := own_ext X7.out HOW.out
            have HIN7 : ∀ (i : Nat) (x : Value) (l : List Int), xs[i]? = some x → ls[i]? = some l → Ints w7 (w.heap.size + 1) x l := fun i x l p q => (HIN.out i x l p q).ext X7.out
            have HIN7 := Lib.hid HIN7
            have hs7 := Below.size X7.out
            clear hI7 hI7' x7 hml d0 d1 d2 d3 d4 d5 c42
            go_wp2_with (first
              | (at_builtin; refine wpList_append_own _ rfl _ _ 30 rfl (w.heap.size + 1) 38 i0 (.slice none 0 0) 1 24 Tryz.underlying30 hi0 hz0 hz1 hz2 rfl (by decide) _ _ _ rfl (own7.alloc _) ⟨w7.heap.size, 0, none⟩ 1 1 [(.slice al ml cl)] rfl rfl ?c1d ?c2d ?c3d ?c4d ?c5d ?_)
              | go_in)
            try (case c1d => exact cell_one_new _ _ _)
            try (case c2d => first | rfl | (intro u hu; simp at hu; subst hu; rfl))
            try (case c3d => unfold maxLen; omega)
            try (case c4d => omega)
            try (case c5d => first | omega | (simp; omega))
            intro v' w9 hown' hgrow _
            have A1 : Hid (IntRows w9 (w.heap.size + 1) v' (ls ++ [qs])) := IntRows.snoc (w := w7) (by rw [hll]; exact own7) HIN7.out HI7.out (by rw [hll]; exact hown') hgrow
            have A4 : Hid (Ext (w.alloc (.cells c.cells 27)) w9) := by
              have hx8 := Hx.out.trans X7.out
              refine Below.grown (Below.alloc hx8 (Below.size hx8) (.cells #[(.slice al ml cl)] 38)) hgrow (by have := Below.size hx8; simp at this ⊢; omega) (fun q hq => ?_)
              have := ((own7.alloc (.cells #[(.slice al ml cl)] 38)).lt q hq).1
              simp; omega
            have HN : Hid (ls ++ [qs] = c.nums (k + 1)) := by show _ = _; rw [HNS.out, HNA.out]; rw [if_neg h5, if_neg h6]
            clear hown' hgrow
            go_wp2_with fail
            go_roundw
            case rel => exact ⟨k + 1, ls ++ [qs], by omega, by go_num, by simp; omega, HN, A1, A4⟩
            case measure => simp [RowKit.intOf] <;> omega
          · skip
            subst hx7
            go_wp2_with fail
            go_at_call 42
            refine (HCX.out _ (HXX.out.trans HXE.out)).mono ?_
            rintro e w7 ⟨v7, rfl, hI7, x7⟩
            have hI7' : Ints w7 (w.heap.size + 1) v7 qs := hI7.mono (by simp; omega)
            obtain ⟨al, cl, hal⟩ := own_any hI7'
            obtain ⟨ml, hml⟩ : ∃ ml, ml = qs.length := ⟨_, rfl⟩
            rw [← hml] at hal
            subst hal
            have HI7 := Lib.hid hI7'
            have X7 := Lib.hid (HXE.out.trans x7)
            have own7 := own_ext X7.out HOW.out
            have HIN7 : ∀ (i : Nat) (x : Value) (l : List Int), xs[i]? = some x → ls[i]? = some l → Ints w7 (w.heap.size + 1) x l := fun i x l p q => (HIN.out i x l p q).ext X7.out
            have HIN7 := Lib.hid HIN7
            have hs7 := Below.size X7.out
            clear hI7 hI7' x7 hml d0 d1 d2 d3 d4 d5 c42
            go_wp2_with (first
              | (at_builtin; refine wpList_append_own _ rfl _ _ 30 rfl (w.heap.size + 1) 38 i0 (.slice none 0 0) 1 24 Tryz.underlying30 hi0 hz0 hz1 hz2 rfl (by decide) _ _ _ rfl (own7.alloc _) ⟨w7.heap.size, 0, none⟩ 1 1 [(.slice al ml cl)] rfl rfl ?c1e ?c2e ?c3e ?c4e ?c5e ?_)
              | go_in)
            try (case c1e => exact cell_one_new _ _ _)
            try (case c2e => first | rfl | (intro u hu; simp at hu; subst hu; rfl))
            try (case c3e => unfold maxLen; omega)
            try (case c4e => omega)
            try (case c5e => first | omega | (simp; omega))
            intro v' w9 hown' hgrow _
            have A1 : Hid (IntRows w9 (w.heap.size + 1) v' (ls ++ [qs])) := IntRows.snoc (w := w7) (by rw [hll]; exact own7) HIN7.out HI7.out (by rw [hll]; exact hown') hgrow
            have A4 : Hid (Ext (w.alloc (.cells c.cells 27)) w9) := by
              have hx8 := Hx.out.trans X7.out
              refine Below.grown (Below.alloc hx8 (Below.size hx8) (.cells #[(.slice al ml cl)] 38)) hgrow (by have := Below.size hx8; simp at this ⊢; omega) (fun q hq => ?_)
              have := ((own7.alloc (.cells #[(.slice al ml cl)] 38)).lt q hq).1
              simp; omega
            have HN : Hid (ls ++ [qs] = c.nums (6 + 1)) := by show _ = _; rw [HNS.out, HNA.out]; rw [if_neg h5, if_neg h6]
            clear hown' hgrow
            go_wp2_with fail
            go_roundw
            case rel => exact ⟨6 + 1, ls ++ [qs], by omega, by go_num, by simp; omega, HN, A1, A4⟩
            case measure => simp [RowKit.intOf] <;> omega
    · have hk7 : k = 7 := by omega
      subst hk7
      go_wp2_with fail
      go_ret
      exact ⟨_, rfl, by rw [← HL.out]; exact HR.out.mono (by omega), HX.out.trans Hx.out⟩
end Go.Proofs.YtmaffdhcmdhjfaaGreatDoor
