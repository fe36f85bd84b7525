/- spec.numbers: lists, and the rest. -/
import Derived.Test.YtmaffdhcmdhjfaaGreatDoorSpI
namespace Go.Proofs.YtmaffdhcmdhjfaaGreatDoor
open Go.RowKit Go.Lib

theorem numsA_len {f : Nat} {k a b s n : Int} (h : Simple f k a b s n) : 0 < (numsA f k a b s).length ∧ (numsA f k a b s).length ≤ 4001 := by
  have l := least_bd f
  have m := most_bd f
  have lm := least_le_most f
  rcases h.kind with rfl | rfl | rfl | rfl | rfl
  · have := simple_number h; simp only [numsA]; exact stepsL_len a a 1 (by omega) (by omega) (by omega) (by omega)
  · have := simple_range h; simp only [numsA]; exact stepsL_len a b 1 (by omega) (by omega) (by omega) (by omega)
  · have := simple_from h; simp only [numsA]; exact stepsL_len a (mostF f) s (by omega) (by omega) (by omega) (by omega)
  · have := simple_every h; simp only [numsA]; exact stepsL_len (leastF f) (mostF f) s (by omega) (by omega) (by omega) (by omega)
  · have := simple_steps h; simp only [numsA]; exact stepsL_len a b s (by omega) (by omega) (by omega) (by omega)

theorem numbers_simple (f : Nat) (hf : f < 7) (k a b s n : Int) (it : Value) (h : Simple f k a b s n) (w : World) :
    Calls Tryz.prog 42 #[.int .i64 f, .agg #[.int .i64 k, .int .i64 a, .int .i64 b, .int .i64 s, .int .i64 n, it]] w (NumPost w (numsA f k a b s)) := by
  rcases h.kind with rfl | rfl | rfl | rfl | rfl
  · exact numbers_2 f hf a b s n it (simple_number h) w
  · exact numbers_3 f hf a b s n it (simple_range h) w
  · have := simple_from h; exact numbers_4 f hf a b s n it ⟨this.1, this.2.1, this.2.2.1, this.2.2.2.1⟩ w
  · have := simple_every h; exact numbers_5 f hf a b s n it ⟨this.1, this.2.1⟩ w
  · exact numbers_6 f hf a b s n it (simple_steps h) w

theorem sort63 (v : Value) (base : Nat) (zs : List Int) (w : World) (hI : Ints w base v zs) (hl : zs.length ≤ 100000000) :
    Calls Tryz.prog 63 #[v] w fun e w' => e = .returned (.tuple #[]) ∧ Ints w' base v (sortL zs) ∧ w.grownBy w' v.ownBlock := by
  rcases hI.2 with ⟨rfl, h0⟩ | ⟨g, cap, cur, rfl, hb, hg, hnc, hcm, hcs, htake⟩
  · have hz : zs = [] := List.length_eq_zero_iff.mp h0
    subst hz
    refine (Tryz.slices_Sort_int_none none 0 w).mono ?_
    rintro e w' ⟨rfl, rfl⟩
    exact ⟨rfl, by simpa [sortL] using hI, ⟨rfl, rfl, rfl, Nat.le_refl _, fun _ _ _ => rfl⟩⟩
  · have hH : Go.Sort.Holds (Value.int .i64) w g 0 zs.toArray := by
      intro j hj
      have hj' : j < zs.length := by simpa using hj
      rw [Nat.zero_add]
      refine ⟨?_, World.ownsRow.frozenAt hI j⟩
      rw [World.ownsRow.cellAt hI j (by omega)]
      simp [ints, List.getElem?_map, List.getElem?_eq_getElem hj', hj']
    refine (Tryz.slices_Sort_int g 0 cap zs w hH (block_lt hg) (by omega)).mono ?_
    rintro e w' ⟨rfl, n, os, rfl⟩
    have hlen : (sortL zs).length = zs.length := by simp [sortL]
    refine ⟨rfl, ?_, grownBy_sortedI _⟩
    unfold Ints
    rw [hlen]
    exact ownsRow_sortedI (ss := zs) hlen hb hg hnc hcm hcs

set_option maxHeartbeats 6400000 in
set_option maxRecDepth 1000000 in
theorem numbers_none (f : Nat) (hf : f < 7) (k a b s n : Int) (it : Value) (h2 : k ≠ 2) (h3 : k ≠ 3) (h4 : k ≠ 4) (h5 : k ≠ 5) (h6 : k ≠ 6) (h7 : k ≠ 7) (w : World) :
    Calls Tryz.prog 42 #[.int .i64 f, .agg #[.int .i64 k, .int .i64 a, .int .i64 b, .int .i64 s, .int .i64 n, it]] w (NumPost w (numsA f k a b s)) := by
  have hr : numsA f k a b s = [] := by unfold numsA; rw [if_neg h2, if_neg h3, if_neg h4, if_neg h5, if_neg h6]
  rw [hr]
  clear hr
  have HB : Hid (NumS w k a b s ((w.alloc (.cells #[.int .i64 k, .int .i64 a, .int .i64 b, .int .i64 s, .int .i64 n, it] 24)).alloc (.cells #[] 3))) := by
    have hb : Boxed w k a b s (w.alloc (.cells #[.int .i64 k, .int .i64 a, .int .i64 b, .int .i64 s, .int .i64 n, it] 24)) := ⟨Ext.alloc _ _, by simp, by simp, by simp, by simp⟩
    refine ⟨hb.step (Ext.alloc _ _), ?_⟩
    have h := World.ownsRow_lit (w.alloc (.cells #[.int .i64 k, .int .i64 a, .int .i64 b, .int .i64 s, .int .i64 n, it] 24)) (base := w.heap.size) (e := 3) (size := 1) #[] 0 (by simp) (by decide) rfl
    have e : (w.alloc (.cells #[.int .i64 k, .int .i64 a, .int .i64 b, .int .i64 s, .int .i64 n, it] 24)).heap.size = w.heap.size + 1 := by simp
    rw [e] at h
    exact h
  have e2 : (k == 2) = false := by rw [beq_eq_false_iff_ne]; exact h2
  have e3 : (k == 3) = false := by rw [beq_eq_false_iff_ne]; exact h3
  have e4 : (k == 4) = false := by rw [beq_eq_false_iff_ne]; exact h4
  have e5 : (k == 5) = false := by rw [beq_eq_false_iff_ne]; exact h5
  have e6 : (k == 6) = false := by rw [beq_eq_false_iff_ne]; exact h6
  have e7 : (k == 7) = false := by rw [beq_eq_false_iff_ne]; exact h7
  clear h2 h3 h4 h5 h6 h7
  go_enter Tryz.func42, Tryz.ntmps42
  go_wp2_with fail
  obtain ⟨T, g, hT, h0, hS, hI⟩ := cls_intro (NumS w _ a b s) _ (NumS.step HB.out (Ext.drew _))
  have c0 := fun t => (hS t).bx.2.1
  have c1 := fun t => (hS t).bx.2.2.1
  have c2 := fun t => (hS t).bx.2.2.2.1
  have c3 := fun t => (hS t).bx.2.2.2.2
  have HS := Lib.hid hS
  clear hS hI
  refine wp_region_cls g (by kernel_rfl) (by kernel_rfl) h0 ?_
  clear h0
  repeat (go_big_quiet_step (fail))
  refine wpQuiet_nil ?_
  rintro _ ⟨t, rfl⟩
  clear c0 c1 c2 c3
  have HB := Lib.hid (HS.out t)
  clear HS
  generalize g t = w2 at HB
  clear hT t g T
  have c0 := HB.out.bx.2.1
  go_wp2_with fail
  go_ret
  exact num_post HB.out.out rfl HB.out.bx.1

/-- the box's slice of items -/
structure NumL (w : World) (a b s : Int) (it : Value) (W : World) : Prop where
  bx : NumS w 7 a b s W
  it : W.cell? ⟨w.heap.size, 5, none⟩ = some it
  out : Ints W (w.heap.size + 1) (.slice (some ⟨w.heap.size + 1, 0, none⟩) 0 0) []
theorem NumL.step {w : World} {a b s : Int} {it : Value} {W W' : World} (h : NumL w a b s it W) (x : Ext W W') : NumL w a b s it W' := ⟨h.bx.step x, x.cell h.it, h.out.ext x⟩
/-- a cell of a block that was there stays behind an append to another row -/
theorem grown_cell {w w' : World} {row : Option Nat} (h : w.grownBy w' row) {a : Addr} {v : Value} (hc : w.cell? a = some v) (hne : row ≠ some a.block) : w'.cell? a = some v := by
  have hl : a.block < w.heap.size := by
    rcases Nat.lt_or_ge a.block w.heap.size with h' | h'
    · exact h'
    · simp [World.cell?, Array.getElem?_eq_none h'] at hc
  have hb := h.block a.block hl (fun e => hne e.symm)
  unfold World.cell? at hc ⊢
  rw [hb]
  exact hc

set_option maxHeartbeats 6400000 in
set_option maxRecDepth 1000000 in
theorem numbers_list (f : Nat) (hf : f < 7) (a b s n : Int) (ia : Option Addr) (cap : Nat) (items : List Atom) (hO : ListOk f items) (h6 : items.length ≤ 6) (w : World) (hI : ItemsAt w ia items) :
    Calls Tryz.prog 42 #[.int .i64 f, .agg #[.int .i64 7, .int .i64 a, .int .i64 b, .int .i64 s, .int .i64 n, .slice ia items.length cap]] w (NumPost w (sortL (items.flatMap (Atom.nums f)))) := by
  obtain ⟨i0, hi0, hz0, hz1, hz2⟩ := info_parts Tryz.info3
  obtain ⟨L, hL⟩ : ∃ L, L = items.length := ⟨_, rfl⟩
  have HL := Lib.hid hL
  have HI := Lib.hid hI
  have hl6 : L ≤ 6 := by rw [hL]; exact h6
  rw [← hL]
  clear hL hI
  have HB : Hid (NumS w 7 a b s ((w.alloc (.cells #[.int .i64 7, .int .i64 a, .int .i64 b, .int .i64 s, .int .i64 n, .slice ia L cap] 24)).alloc (.cells #[] 3))) := by
    have hb : Boxed w 7 a b s (w.alloc (.cells #[.int .i64 7, .int .i64 a, .int .i64 b, .int .i64 s, .int .i64 n, .slice ia L cap] 24)) := ⟨Ext.alloc _ _, by simp, by simp, by simp, by simp⟩
    refine ⟨hb.step (Ext.alloc _ _), ?_⟩
    have h := World.ownsRow_lit (w.alloc (.cells #[.int .i64 7, .int .i64 a, .int .i64 b, .int .i64 s, .int .i64 n, .slice ia L cap] 24)) (base := w.heap.size) (e := 3) (size := 1) #[] 0 (by simp) (by decide) rfl
    have e : (w.alloc (.cells #[.int .i64 7, .int .i64 a, .int .i64 b, .int .i64 s, .int .i64 n, .slice ia L cap] 24)).heap.size = w.heap.size + 1 := by simp
    rw [e] at h
    exact h
  have HBL : Hid (NumL w a b s (.slice ia L cap) ((w.alloc (.cells #[.int .i64 7, .int .i64 a, .int .i64 b, .int .i64 s, .int .i64 n, .slice ia L cap] 24)).alloc (.cells #[] 3))) := by
    refine ⟨HB.out, ?_, ?_⟩
    rotate_left
    · have h := World.ownsRow_lit (w.alloc (.cells #[.int .i64 7, .int .i64 a, .int .i64 b, .int .i64 s, .int .i64 n, .slice ia L cap] 24)) (base := w.heap.size + 1) (e := 3) (size := 1) #[] 0 (by simp) (by decide) rfl
      have e : (w.alloc (.cells #[.int .i64 7, .int .i64 a, .int .i64 b, .int .i64 s, .int .i64 n, .slice ia L cap] 24)).heap.size = w.heap.size + 1 := by simp
      rw [e] at h
      exact h
    have : (w.alloc (.cells #[.int .i64 7, .int .i64 a, .int .i64 b, .int .i64 s, .int .i64 n, .slice ia L cap] 24)).cell? ⟨w.heap.size, 5, none⟩ = some (.slice ia L cap) := by simp
    exact (Ext.alloc _ _).cell this
  clear HB
  have HB := HBL
  clear HBL
  go_enter Tryz.func42, Tryz.ntmps42
  go_wp2_with fail
  obtain ⟨T, g, hT, h0, hS, hI⟩ := cls_intro (NumL w a b s (.slice ia L cap)) _ (NumL.step HB.out (Ext.drew _))
  have c0 := fun t => (hS t).bx.bx.2.1
  have c1 := fun t => (hS t).bx.bx.2.2.1
  have c2 := fun t => (hS t).bx.bx.2.2.2.1
  have c3 := fun t => (hS t).bx.bx.2.2.2.2
  have HS := Lib.hid hS
  clear hS hI
  refine wp_region_cls g (by kernel_rfl) (by kernel_rfl) h0 ?_
  clear h0
  repeat (go_big_quiet_step (fail))
  refine wpQuiet_nil ?_
  rintro _ ⟨t, rfl⟩
  clear c0 c1 c2 c3
  have HB := Lib.hid (HS.out t)
  clear HS
  generalize g t = w2 at HB
  clear hT t g T
  have c0 := HB.out.bx.bx.2.1
  have c5 := HB.out.it
  have C5 := Lib.hid c5
  have HX2 := Lib.hid HB.out.bx.bx.1
  have HO2 := Lib.hid HB.out.out
  have hsz2 : w.heap.size < w2.heap.size := by
    have := c5
    rcases Nat.lt_or_ge w.heap.size w2.heap.size with h | h
    · exact h
    · simp [World.cell?, Array.getElem?_eq_none h] at this
  have Hsz2 := Lib.hid hsz2
  have HWs : Hid (w.heap.size + 1 ≤ w.heap.size + 1) := Nat.le_refl _
  clear hsz2
  go_wp2_with fail
  go_loopw [5, 9] (fun v i wr => ∃ (k : Nat) (P : List Int), k ≤ L ∧ i = .int .i64 k ∧ Hid (P = (items.take k).flatMap (Atom.nums f)) ∧ P.length ≤ k * 4001 ∧ Hid (Ints wr (w.heap.size + 1) v P) ∧ Hid (Ext w wr) ∧ Hid (wr.cell? ⟨w.heap.size, 5, none⟩ = some (.slice ia L cap)))
    (fun _ i _ => L - (RowKit.intOf i).toNat)
  case atStart => exact ⟨0, [], Nat.zero_le _, rfl, rfl, Nat.zero_le _, HO2.out, HX2.out, C5.out⟩
  case round =>
    obtain ⟨k, P, hk, rfl, HP, hPl, Hv, Hw, H5⟩ := hrel
    clear c0 c5
    have c5 := H5.out
    have hv' := Hv.out
    obtain ⟨av, capv, hav⟩ := own_any hv'
    rw [hav] at hv'
    subst hav
    obtain ⟨lv, hlv⟩ : ∃ lv, lv = P.length := ⟨_, rfl⟩
    have own0 : wr.ownsRow (w.heap.size + 1) 3 1 (.slice av lv capv) lv (ints P) := by rw [hlv]; exact hv'
    have hlvb : lv ≤ k * 4001 := by omega
    have hxw := Below.size Hw.out
    rw [← hlv]
    have HLV := Lib.hid hlv
    have HOW := Lib.hid own0
    clear hv' Hv hlv own0
    by_cases hlt : k < L
    · have hkl : k < items.length := by have := HL.out; omega
      obtain ⟨bl, off, rfl, hc⟩ := HI.out (by intro e; rw [e] at hkl; simp at hkl)
      obtain ⟨x, hx⟩ : ∃ x, items[k]? = some x := ⟨_, List.getElem?_eq_getElem hkl⟩
      obtain ⟨d0, d1, d2, d3, d4, d5⟩ := hc k x hx
      replace d0 := Hw.out.cell d0
      replace d1 := Hw.out.cell d1
      replace d2 := Hw.out.cell d2
      replace d3 := Hw.out.cell d3
      replace d4 := Hw.out.cell d4
      replace d5 := Hw.out.cell d5
      have h1 : items[k]'hkl = x := (List.getElem?_eq_some_iff.mp hx).2
      have hS : x.ok f := hO.ok x (List.mem_of_getElem? hx)
      obtain ⟨qs, hqs⟩ : ∃ qs, qs = x.nums f := ⟨_, rfl⟩
      have HPS : Hid (P ++ qs = (items.take (k + 1)).flatMap (Atom.nums f)) := by
        show _ = _
        rw [List.take_succ_eq_append_getElem hkl, List.flatMap_append, h1, HP.out, hqs]
        simp
      obtain ⟨xk, xa, xb, xs, xn, xit⟩ := x
      simp only at d0 d1 d2 d3 d4 d5
      have hql : 0 < qs.length ∧ qs.length ≤ 4001 := by rw [hqs]; exact numsA_len (n := xn) hS
      have HCX : Hid (∀ W, Calls Tryz.prog 42 #[.int .i64 f, .agg #[.int .i64 xk, .int .i64 xa, .int .i64 xb, .int .i64 xs, .int .i64 xn, xit]] W (NumPost W qs)) := fun W => by
        rw [hqs]; exact numbers_simple f hf xk xa xb xs xn xit hS W
      clear hc hx h1 hqs hS
      go_wp2_with fail
      go_at_call 42
      refine (HCX.out _).mono ?_
      rintro e w7 ⟨v7, rfl, hI7, x7⟩
      obtain ⟨g7, cap7, rfl, _, _, hc7⟩ := hI7.form hql.1
      have own7 : w7.ownsRow (w.heap.size + 1) 3 1 (.slice av lv capv) lv (ints P) := own_ext x7 HOW.out
      have Hnews : Hid (∀ j u, (ints qs)[j]? = some u → w7.cell? ((⟨g7, 0, none⟩ : Addr).add j) = some u) := by
        intro j u hu
        have ha : (⟨g7, 0, none⟩ : Addr).add j = ⟨g7, j, none⟩ := by unfold Addr.add; split <;> simp_all
        rw [ha]
        simp only [ints, List.getElem?_map, Option.map_eq_some_iff] at hu
        obtain ⟨y, hy, rfl⟩ := hu
        exact hc7 j y hy
      have HW7 := Lib.hid (Hw.out.trans x7)
      have H57 := Lib.hid (x7.cell H5.out)
      have hs7 := Below.size x7
      clear hI7 x7 hc7 c5 d0 d1 d2 d3 d4 d5
      go_wp2_with (first
        | (at_builtin; refine wpList_append_own _ rfl _ _ 38 rfl (w.heap.size + 1) 3 i0 (.int .i64 0) 1 8 Tryz.underlying38 hi0 hz0 hz1 hz2 rfl (by decide) _ _ _ rfl own7 ⟨g7, 0, none⟩ qs.length cap7 (ints qs) rfl (by simp [ints]) ?c1 ?c2 ?c3 ?c4 ?c5 ?_)
        | go_in)
      case c1 => exact Hnews.out
      case c2 => exact ints_one qs
      case c3 => unfold maxLen; omega
      case c4 => omega
      case c5 => have := HWs.out; omega
      intro v' w8 hown' hgrow _
      have A1 : Hid (Ints w8 (w.heap.size + 1) v' (P ++ qs)) := by
        show World.ownsRow _ _ _ _ _ _ _
        have e1 : (P ++ qs).length = lv + qs.length := by rw [List.length_append, HLV.out]
        rw [e1, ints_append]; exact hown'
      have A4 : Hid (Ext w w8) := Below.grown HW7.out hgrow (Below.size HW7.out) (fun q hq => by have := (own7.lt q hq).1; omega)
      have A5 : Hid (w8.cell? ⟨w.heap.size, 5, none⟩ = some (.slice (some ⟨bl, off, none⟩) L cap)) := grown_cell hgrow H57.out (fun e => by have h := (own7.lt _ e).1; exact absurd h (by show ¬ (w.heap.size + 1 ≤ w.heap.size); omega))
      have hpl2 : (P ++ qs).length ≤ (k + 1) * 4001 := by rw [List.length_append]; omega
      clear hown' hgrow own7 Hnews
      go_wp2_with fail
      go_roundw
      case rel => exact ⟨k + 1, P ++ qs, by omega, by go_num, HPS.out, hpl2, A1, A4, A5⟩
      case measure => simp [RowKit.intOf]; omega
    · have hkL : items.take k = items := List.take_of_length_le (by have := HL.out; omega)
      have HPE : Hid (P = items.flatMap (Atom.nums f)) := by show _ = _; rw [HP.out, hkL]
      clear hkL HP
      have hs := sort63 (.slice av lv capv) (w.heap.size + 1) P wr (by show World.ownsRow _ _ _ _ _ _ _; rw [← HLV.out]; exact HOW.out) (by omega)
      have Hs := Lib.hid hs
      clear hs
      go_wp2_with fail
      go_at_call 63
      refine Hs.out.mono ?_
      rintro e w9 ⟨rfl, hI9, hg9⟩
      have A4 : Hid (Ext w w9) := Below.grown Hw.out hg9 (Below.size Hw.out) (fun q hq => by have := (HOW.out.lt q hq).1; omega)
      have A1 : Hid (Ints w9 w.heap.size (.slice av lv capv) (sortL P)) := hI9.mono (by omega)
      clear hI9 hg9 c5
      go_wp2_with fail
      go_ret
      exact num_post A1.out (by rw [HPE.out]) A4.out
end Go.Proofs.YtmaffdhcmdhjfaaGreatDoor
