/- extractStepValues, extractRangeValues. -/
import Derived.Test.YtmaffdhcmdhjfaaGreatDoorFill
namespace Go.Proofs.YtmaffdhcmdhjfaaGreatDoor
open Go.RowKit Go.Lib

theorem own_other {w w1 : World} {base e size n : Nat} {v : Value} {xs : List Value} {row : Option Nat} (ho : w.ownsRow base e size v n xs) (hg : w.grownBy w1 row) (hne : ∀ g, v.ownBlock = some g → row ≠ some g) : w1.ownsRow base e size v n xs := by
  refine ⟨ho.1, ?_⟩
  rcases ho.2 with hn | ⟨g, cap, cur, rfl, hb, hgg, rest⟩
  · exact .inl hn
  · refine .inr ⟨g, cap, cur, rfl, hb, ?_, rest⟩
    have hl : g < w.heap.size := by
      rcases Nat.lt_or_ge g w.heap.size with hlt | hge
      · exact hlt
      · rw [Array.getElem?_eq_none hge] at hgg; cases hgg
    rw [hg.block g hl (fun e => hne g rfl e.symm)]; exact hgg

/-- two rows that share nothing -/
def Apart (v u : Value) : Prop := ∀ g, v.ownBlock = some g → u.ownBlock ≠ some g
theorem Apart.symm {v u : Value} (h : Apart v u) : Apart u v := fun g h1 h2 => h g h2 h1
theorem Apart.grown {w : World} {v u v' : Value} {base e size n : Nat} {xs : List Value} (h : Apart v u) (ho : w.ownsRow base e size u n xs) {k : Nat} (hk : w.heap.size ≤ k) (hv : v'.ownBlock = v.ownBlock ∨ v'.ownBlock = some k) : Apart v' u := by
  intro g hg hu
  rcases hv with hv | hv
  · exact h g (hv ▸ hg) hu
  · have := (ho.lt g hu).2
    rw [hv] at hg; injection hg with hg; omega

def inC (c : UInt8) (l : List (List UInt8)) : List (List UInt8) := l.filter fun x => x.contains c
def outC (c : UInt8) (l : List (List UInt8)) : List (List UInt8) := l.filter fun x => !x.contains c
theorem take_snocL {α : Type} (l : List α) (k : Nat) (x : α) (h : l[k]? = some x) : l.take (k + 1) = l.take k ++ [x] := by
  obtain ⟨hk, rfl⟩ := List.getElem?_eq_some_iff.mp h
  exact List.take_succ_eq_append_getElem hk
theorem inC_yes (c : UInt8) (l : List (List UInt8)) (k : Nat) (x : List UInt8) (h : l[k]? = some x) (hc : x.contains c = true) : inC c (l.take (k + 1)) = inC c (l.take k) ++ [x] ∧ outC c (l.take (k + 1)) = outC c (l.take k) := by
  rw [take_snocL l k x h]; unfold inC outC; rw [List.filter_append, List.filter_append]; simp only [List.filter_cons, List.filter_nil, hc]; simp
theorem inC_no (c : UInt8) (l : List (List UInt8)) (k : Nat) (x : List UInt8) (h : l[k]? = some x) (hc : x.contains c = false) : inC c (l.take (k + 1)) = inC c (l.take k) ∧ outC c (l.take (k + 1)) = outC c (l.take k) ++ [x] := by
  rw [take_snocL l k x h]; unfold inC outC; rw [List.filter_append, List.filter_append]; simp only [List.filter_cons, List.filter_nil, hc]; simp
theorem inC_len (c : UInt8) (l : List (List UInt8)) (k : Nat) : (inC c (l.take k)).length ≤ k ∧ (outC c (l.take k)).length ≤ k := by
  have h := List.length_take_le k l
  exact ⟨Nat.le_trans (List.length_filter_le _ _) h, Nat.le_trans (List.length_filter_le _ _) h⟩

set_option maxHeartbeats 1600000 in
set_option maxRecDepth 1000000 in
theorem extract_step (v : Value) (l : List (List UInt8)) (w : World) (hv : Strs w 0 v l) (hl : l.length ≤ 4096) (hi : ∀ x ∈ l, x.length ≤ 4096) :
    Calls Tryz.prog 151 #[v] w fun e w' => ∃ v1 v2, e = .returned (.tuple #[v1, v2]) ∧ Strs w' w.heap.size v1 (outC 47 l) ∧ Strs w' w.heap.size v2 (inC 47 l) ∧ Ext w w' := by
  obtain ⟨i0, hi0, hz0, hz1, hz2⟩ := info_parts Tryz.info9
  obtain ⟨a, cap, rfl⟩ := own_any hv
  obtain ⟨n, hnn⟩ : ∃ n, n = l.length := ⟨_, rfl⟩
  have hcell : 0 < n → ∃ g, a = some ⟨g, 0, none⟩ ∧ ∀ (j : Nat) (x : List UInt8), l[j]? = some x → w.cell? ⟨g, j, none⟩ = some (.string (mk x)) := by
    intro h
    obtain ⟨g, cap', he, _, _, hc⟩ := hv.form (by omega)
    injection he with he1
    exact ⟨g, he1, hc⟩
  rw [← hnn]
  have hn' : n ≤ 4096 := by omega
  have Hnn := Lib.hid hnn
  clear hv hl hnn
  go_enter Tryz.func151, Tryz.ntmps151
  go_wp2_with (first
    | (at_make; refine wpList_make_own _ rfl _ _ 85 rfl w.heap.size 9 i0 (.string ⟨#[]⟩) 1 Tryz.underlying85 hi0 hz0 hz1 .i64 .i64 (n : Int) n rfl rfl rfl ?c1 ?c2 ?c3 ?_)
    | fail)
  case c1 => rw [hz2]; omega
  case c2 => unfold maxLen; omega
  case c3 => omega
  intro w1 own1 gr1
  have hx1 : Ext w w1 := Below.grown (Below.refl _ _) gr1 (Nat.le_refl _) (fun k h => by cases h)
  go_wp2_with (first
    | (at_make; refine wpList_make_own _ rfl _ _ 85 rfl w.heap.size 9 i0 (.string ⟨#[]⟩) 1 Tryz.underlying85 hi0 hz0 hz1 .i64 .i64 (0 : Int) 0 rfl rfl rfl ?c1 ?c2 ?c3 ?_)
    | fail)
  case c1 => omega
  case c2 => unfold maxLen; omega
  case c3 => exact hx1.size
  intro w2 own2 gr2
  have hx2 : Ext w w2 := hx1.trans (Below.grown (Below.refl _ _) gr2 (Nat.le_refl _) (fun k h => by cases h))
  have own1' := own_other own1 gr2 (fun g _ => by intro h; cases h)
  have hap : Apart (.slice (some ⟨w.heap.size, 0, none⟩) 0 n) (.slice (some ⟨w1.heap.size, 0, none⟩) 0 0) := by
    intro g h1 h2
    have := (own1.lt g h1).2
    injection h2 with h2; simp at h2; omega
  go_wp2_with fail
  go_loopw [4, 5, 7, 14] (fun v4 v5 _ i wr => ∃ k : Nat, k ≤ n ∧ i = .int .i64 k ∧ Hid (wr.ownsRow w.heap.size 9 1 v4 (outC 47 (l.take k)).length (strs (outC 47 (l.take k)))) ∧ Hid (wr.ownsRow w.heap.size 9 1 v5 (inC 47 (l.take k)).length (strs (inC 47 (l.take k)))) ∧ Hid (Apart v4 v5) ∧ Ext w wr)
    (fun _ _ _ i _ => n - (RowKit.intOf i).toNat)
  case atStart => exact ⟨0, Nat.zero_le _, rfl, own1', own2, hap, hx2⟩
  case round =>
    obtain ⟨k, hk, rfl, H4, H5, Hap, hx⟩ := hrel
    clear own1 own2 own1' hap gr1 gr2
    have hlen := inC_len 47 l k
    by_cases hlt : k < n
    · obtain ⟨g, rfl, hc⟩ := hcell (by omega)
      obtain ⟨x, hxx⟩ : ∃ x, l[k]? = some x := ⟨_, List.getElem?_eq_getElem (by rw [← Hnn.out]; exact hlt)⟩
      have hck := hx.cell (hc k x hxx)
      have hxl := hi x (List.mem_iff_getElem?.mpr ⟨k, hxx⟩)
      have Hxx := Lib.hid hxx
      clear hxx hc hcell
      have own4 := H4.out
      have own5 := H5.out
      go_wp2_with fail
      go_at_call 119
      refine (zz_has (mk x) 47 _ (by rw [size_mk]; exact hxl)).mono ?_
      rintro e w3 ⟨rfl, rfl⟩
      rw [bytes_mk]
      rcases hcc : x.contains 47
      · have Hno := Lib.hid (inC_no 47 l k x Hxx.out hcc)
        go_wp2_with (first
          | (at_builtin; refine wpList_append_own_at _ rfl _ _ 85 rfl w.heap.size 9 i0 (.string ⟨#[]⟩) 1 16 Tryz.underlying85 hi0 hz0 hz1 hz2 rfl (by decide) _ _ _ rfl (own4.alloc _) ⟨wr.heap.size, 0, none⟩ 1 1 [.string (mk x)] rfl rfl ?c1 ?c2 ?c3 ?c4 ?c5 ?_)
          | go_in)
        case c1 => exact cell_one_new _ _ _
        case c2 => intro u hu; simp at hu; subst hu; rfl
        case c3 => unfold maxLen; omega
        case c4 => omega
        case c5 => have := hx.size; simp; omega
        intro v' w5 hown' hgrow _ hblk
        have A1 : Hid (w5.ownsRow w.heap.size 9 1 v' (outC 47 (l.take (k + 1))).length (strs (outC 47 (l.take (k + 1))))) := by
          show World.ownsRow _ _ _ _ _ _ _
          rw [Hno.out.2, strs_snoc]; simpa using hown'
        have A2 : Hid (w5.ownsRow w.heap.size 9 1 u5 (inC 47 (l.take (k + 1))).length (strs (inC 47 (l.take (k + 1))))) := by
          show World.ownsRow _ _ _ _ _ _ _
          rw [Hno.out.1]; exact own_other (own5.alloc _) hgrow (fun g h1 h2 => Hap.out g h2 h1)
        have A3 : Hid (Apart v' u5) := Hap.out.grown own5 (k := wr.heap.size + 1) (by omega) (by simpa using hblk)
        have A4 := Ext.own_grown hx own4 hgrow
        clear hown' hgrow hblk own4 own5
        go_wp2_with fail
        go_roundw
        case rel => exact ⟨k + 1, by omega, by go_num, A1, A2, A3, A4⟩
        case measure => simp [RowKit.intOf]; omega
      · have Hyes := Lib.hid (inC_yes 47 l k x Hxx.out hcc)
        go_wp2_with (first
          | (at_builtin; refine wpList_append_own_at _ rfl _ _ 85 rfl w.heap.size 9 i0 (.string ⟨#[]⟩) 1 16 Tryz.underlying85 hi0 hz0 hz1 hz2 rfl (by decide) _ _ _ rfl (own5.alloc _) ⟨wr.heap.size, 0, none⟩ 1 1 [.string (mk x)] rfl rfl ?c1 ?c2 ?c3 ?c4 ?c5 ?_)
          | go_in)
        case c1 => exact cell_one_new _ _ _
        case c2 => intro u hu; simp at hu; subst hu; rfl
        case c3 => unfold maxLen; omega
        case c4 => omega
        case c5 => have := hx.size; simp; omega
        intro v' w5 hown' hgrow _ hblk
        have A1 : Hid (w5.ownsRow w.heap.size 9 1 v' (inC 47 (l.take (k + 1))).length (strs (inC 47 (l.take (k + 1))))) := by
          show World.ownsRow _ _ _ _ _ _ _
          rw [Hyes.out.1, strs_snoc]; simpa using hown'
        have A2 : Hid (w5.ownsRow w.heap.size 9 1 u4 (outC 47 (l.take (k + 1))).length (strs (outC 47 (l.take (k + 1))))) := by
          show World.ownsRow _ _ _ _ _ _ _
          rw [Hyes.out.2]; exact own_other (own4.alloc _) hgrow (fun g h1 h2 => Hap.out g h1 h2)
        have A3 : Hid (Apart u4 v') := (Hap.out.symm.grown own4 (k := wr.heap.size + 1) (by omega) (by simpa using hblk)).symm
        have A4 := Ext.own_grown hx own5 hgrow
        clear hown' hgrow hblk own4 own5
        go_wp2_with fail
        go_roundw
        case rel => exact ⟨k + 1, by omega, by go_num, A2, A1, A3, A4⟩
        case measure => simp [RowKit.intOf]; omega
    · have hkn : l.take k = l := List.take_of_length_le (by rw [← Hnn.out]; omega)
      rw [hkn] at H4 H5
      go_wp2_with fail
      go_ret2
      exact ⟨_, _, rfl, H4.out, H5.out, hx⟩

set_option maxHeartbeats 1600000 in
set_option maxRecDepth 1000000 in
theorem extract_range (v : Value) (l : List (List UInt8)) (w : World) (hv : Strs w 0 v l) (hl : l.length ≤ 4096) (hi : ∀ x ∈ l, x.length ≤ 4096) :
    Calls Tryz.prog 152 #[v] w fun e w' => ∃ v1 v2, e = .returned (.tuple #[v1, v2]) ∧ Strs w' w.heap.size v1 (outC 45 l) ∧ Strs w' w.heap.size v2 (inC 45 l) ∧ Ext w w' := by
  obtain ⟨i0, hi0, hz0, hz1, hz2⟩ := info_parts Tryz.info9
  obtain ⟨a, cap, rfl⟩ := own_any hv
  obtain ⟨n, hnn⟩ : ∃ n, n = l.length := ⟨_, rfl⟩
  have hcell : 0 < n → ∃ g, a = some ⟨g, 0, none⟩ ∧ ∀ (j : Nat) (x : List UInt8), l[j]? = some x → w.cell? ⟨g, j, none⟩ = some (.string (mk x)) := by
    intro h
    obtain ⟨g, cap', he, _, _, hc⟩ := hv.form (by omega)
    injection he with he1
    exact ⟨g, he1, hc⟩
  rw [← hnn]
  have hn' : n ≤ 4096 := by omega
  have Hnn := Lib.hid hnn
  clear hv hl hnn
  go_enter Tryz.func152, Tryz.ntmps152
  go_wp2_with (first
    | (at_make; refine wpList_make_own _ rfl _ _ 85 rfl w.heap.size 9 i0 (.string ⟨#[]⟩) 1 Tryz.underlying85 hi0 hz0 hz1 .i64 .i64 (n : Int) n rfl rfl rfl ?c1 ?c2 ?c3 ?_)
    | fail)
  case c1 => rw [hz2]; omega
  case c2 => unfold maxLen; omega
  case c3 => omega
  intro w1 own1 gr1
  have hx1 : Ext w w1 := Below.grown (Below.refl _ _) gr1 (Nat.le_refl _) (fun k h => by cases h)
  go_wp2_with (first
    | (at_make; refine wpList_make_own _ rfl _ _ 85 rfl w.heap.size 9 i0 (.string ⟨#[]⟩) 1 Tryz.underlying85 hi0 hz0 hz1 .i64 .i64 (0 : Int) 0 rfl rfl rfl ?c1 ?c2 ?c3 ?_)
    | fail)
  case c1 => omega
  case c2 => unfold maxLen; omega
  case c3 => exact hx1.size
  intro w2 own2 gr2
  have hx2 : Ext w w2 := hx1.trans (Below.grown (Below.refl _ _) gr2 (Nat.le_refl _) (fun k h => by cases h))
  have own1' := own_other own1 gr2 (fun g _ => by intro h; cases h)
  have hap : Apart (.slice (some ⟨w.heap.size, 0, none⟩) 0 n) (.slice (some ⟨w1.heap.size, 0, none⟩) 0 0) := by
    intro g h1 h2
    have := (own1.lt g h1).2
    injection h2 with h2; simp at h2; omega
  go_wp2_with fail
  go_loopw [4, 5, 7, 14] (fun v4 v5 _ i wr => ∃ k : Nat, k ≤ n ∧ i = .int .i64 k ∧ Hid (wr.ownsRow w.heap.size 9 1 v4 (outC 45 (l.take k)).length (strs (outC 45 (l.take k)))) ∧ Hid (wr.ownsRow w.heap.size 9 1 v5 (inC 45 (l.take k)).length (strs (inC 45 (l.take k)))) ∧ Hid (Apart v4 v5) ∧ Ext w wr)
    (fun _ _ _ i _ => n - (RowKit.intOf i).toNat)
  case atStart => exact ⟨0, Nat.zero_le _, rfl, own1', own2, hap, hx2⟩
  case round =>
    obtain ⟨k, hk, rfl, H4, H5, Hap, hx⟩ := hrel
    clear own1 own2 own1' hap gr1 gr2
    have hlen := inC_len 45 l k
    by_cases hlt : k < n
    · obtain ⟨g, rfl, hc⟩ := hcell (by omega)
      obtain ⟨x, hxx⟩ : ∃ x, l[k]? = some x := ⟨_, List.getElem?_eq_getElem (by rw [← Hnn.out]; exact hlt)⟩
      have hck := hx.cell (hc k x hxx)
      have hxl := hi x (List.mem_iff_getElem?.mpr ⟨k, hxx⟩)
      have Hxx := Lib.hid hxx
      clear hxx hc hcell
      have own4 := H4.out
      have own5 := H5.out
      go_wp2_with fail
      go_at_call 119
      refine (zz_has (mk x) 45 _ (by rw [size_mk]; exact hxl)).mono ?_
      rintro e w3 ⟨rfl, rfl⟩
      rw [bytes_mk]
      rcases hcc : x.contains 45
      · have Hno := Lib.hid (inC_no 45 l k x Hxx.out hcc)
        go_wp2_with (first
          | (at_builtin; refine wpList_append_own_at _ rfl _ _ 85 rfl w.heap.size 9 i0 (.string ⟨#[]⟩) 1 16 Tryz.underlying85 hi0 hz0 hz1 hz2 rfl (by decide) _ _ _ rfl (own4.alloc _) ⟨wr.heap.size, 0, none⟩ 1 1 [.string (mk x)] rfl rfl ?c1 ?c2 ?c3 ?c4 ?c5 ?_)
          | go_in)
        case c1 => exact cell_one_new _ _ _
        case c2 => intro u hu; simp at hu; subst hu; rfl
        case c3 => unfold maxLen; omega
        case c4 => omega
        case c5 => have := hx.size; simp; omega
        intro v' w5 hown' hgrow _ hblk
        have A1 : Hid (w5.ownsRow w.heap.size 9 1 v' (outC 45 (l.take (k + 1))).length (strs (outC 45 (l.take (k + 1))))) := by
          show World.ownsRow _ _ _ _ _ _ _
          rw [Hno.out.2, strs_snoc]; simpa using hown'
        have A2 : Hid (w5.ownsRow w.heap.size 9 1 u5 (inC 45 (l.take (k + 1))).length (strs (inC 45 (l.take (k + 1))))) := by
          show World.ownsRow _ _ _ _ _ _ _
          rw [Hno.out.1]; exact own_other (own5.alloc _) hgrow (fun g h1 h2 => Hap.out g h2 h1)
        have A3 : Hid (Apart v' u5) := Hap.out.grown own5 (k := wr.heap.size + 1) (by omega) (by simpa using hblk)
        have A4 := Ext.own_grown hx own4 hgrow
        clear hown' hgrow hblk own4 own5
        go_wp2_with fail
        go_roundw
        case rel => exact ⟨k + 1, by omega, by go_num, A1, A2, A3, A4⟩
        case measure => simp [RowKit.intOf]; omega
      · have Hyes := Lib.hid (inC_yes 45 l k x Hxx.out hcc)
        go_wp2_with (first
          | (at_builtin; refine wpList_append_own_at _ rfl _ _ 85 rfl w.heap.size 9 i0 (.string ⟨#[]⟩) 1 16 Tryz.underlying85 hi0 hz0 hz1 hz2 rfl (by decide) _ _ _ rfl (own5.alloc _) ⟨wr.heap.size, 0, none⟩ 1 1 [.string (mk x)] rfl rfl ?c1 ?c2 ?c3 ?c4 ?c5 ?_)
          | go_in)
        case c1 => exact cell_one_new _ _ _
        case c2 => intro u hu; simp at hu; subst hu; rfl
        case c3 => unfold maxLen; omega
        case c4 => omega
        case c5 => have := hx.size; simp; omega
        intro v' w5 hown' hgrow _ hblk
        have A1 : Hid (w5.ownsRow w.heap.size 9 1 v' (inC 45 (l.take (k + 1))).length (strs (inC 45 (l.take (k + 1))))) := by
          show World.ownsRow _ _ _ _ _ _ _
          rw [Hyes.out.1, strs_snoc]; simpa using hown'
        have A2 : Hid (w5.ownsRow w.heap.size 9 1 u4 (outC 45 (l.take (k + 1))).length (strs (outC 45 (l.take (k + 1))))) := by
          show World.ownsRow _ _ _ _ _ _ _
          rw [Hyes.out.2]; exact own_other (own4.alloc _) hgrow (fun g h1 h2 => Hap.out g h1 h2)
        have A3 : Hid (Apart u4 v') := (Hap.out.symm.grown own4 (k := wr.heap.size + 1) (by omega) (by simpa using hblk)).symm
        have A4 := Ext.own_grown hx own5 hgrow
        clear hown' hgrow hblk own4 own5
        go_wp2_with fail
        go_roundw
        case rel => exact ⟨k + 1, by omega, by go_num, A2, A1, A3, A4⟩
        case measure => simp [RowKit.intOf]; omega
    · have hkn : l.take k = l := List.take_of_length_le (by rw [← Hnn.out]; omega)
      rw [hkn] at H4 H5
      go_wp2_with fail
      go_ret2
      exact ⟨_, _, rfl, H4.out, H5.out, hx⟩

end Go.Proofs.YtmaffdhcmdhjfaaGreatDoor
