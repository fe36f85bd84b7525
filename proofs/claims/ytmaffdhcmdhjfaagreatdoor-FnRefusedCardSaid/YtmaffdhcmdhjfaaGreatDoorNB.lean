/- parseListField. parseField. parseDayOfMonthField, parseDayOfWeekField. (*cronField).add. buildCronField. -/
import Derived.Test.YtmaffdhcmdhjfaaGreatDoorNA
import Derived.Sort.OwnSortedInts
set_option linter.unusedSimpArgs false
set_option linter.unusedVariables false
namespace Go.Proofs.YtmaffdhcmdhjfaaGreatDoor
open Go.RowKit Go.Lib
theorem stepsL_len (a b s : Int) (h0 : 0 ≤ a) (hab : a ≤ b) (hb : b ≤ 4000) (hs : 1 ≤ s) : 0 < (stepsL a b s).length ∧ (stepsL a b s).length ≤ 4001 := by
 unfold stepsL
 have hq0 : 0 ≤ (b - a) / s := Int.ediv_nonneg (by omega) (by omega)
 have hqb : (b - a) / s ≤ b - a := Int.ediv_le_self _ (by omega)
 simp; omega
theorem ite_some {c : Bool} {x z : List Int} (h : (if c then some x else none) = some z) : c = true ∧ x = z := by
 cases c
 ·cases h
 ·injection h with h; exact ⟨rfl, h⟩
theorem stepO_len {names : List (List UInt8)} {lo hi : Int} {l : List UInt8} {zs : List Int} (h : stepO names lo hi l = some zs) (h0 : 0 ≤ lo) (h1 : hi ≤ 4000) : 0 < zs.length ∧ zs.length ≤ 4001 := by
 unfold stepO at h
 split at h
 ·split at h
  ·cases h
  ·split at h
   ·cases h
   ·obtain ⟨hc, rfl⟩ := ite_some h
    simp only [within, Bool.and_eq_true, decide_eq_true_eq] at hc
    exact stepsL_len _ _ _ (by omega) (by omega) (by omega) (by omega)
 ·cases h
theorem rangeO_len {names : List (List UInt8)} {lo hi : Int} {l : List UInt8} {zs : List Int} (h : rangeO names lo hi l = some zs) (h0 : 0 ≤ lo) (h1 : hi ≤ 4000) : 0 < zs.length ∧ zs.length ≤ 4001 := by
 unfold rangeO at h
 split at h
 ·split at h
  ·cases h
  ·split at h
   ·cases h
   ·obtain ⟨hc, rfl⟩ := ite_some h
    simp only [within, Bool.and_eq_true, decide_eq_true_eq] at hc
    exact stepsL_len _ _ _ (by omega) (by omega) (by omega) (by omega)
 ·cases h
def catAll (f : List UInt8 → Option (List Int)) : List (List UInt8) → Option (List Int)
 | [] => some []
 | x :: xs => match f x with
   | none => none
   | some a => (catAll f xs).map (a ++ ·)
theorem catAll_append (f : List UInt8 → Option (List Int)) : ∀ (a b : List (List UInt8)), catAll f (a ++ b) = (catAll f a).bind fun x => (catAll f b).map (x ++ ·)
 | [], b => by simp [catAll]
 | x :: xs, b => by
   simp only [List.cons_append, catAll]
   cases f x with
   | none => rfl
   | some n =>
     simp only [catAll_append f xs b]
     cases catAll f xs with
     | none => rfl
     | some y => cases catAll f b <;> simp
theorem catAll_split (f : List UInt8 → Option (List Int)) (l : List (List UInt8)) (k : Nat) (x : List UInt8) (zs : List Int) (hx : l[k]? = some x) (h : catAll f (l.take k) = some zs) :
 (f x = none → catAll f l = none) ∧ (∀ a, f x = some a → catAll f (l.take (k + 1)) = some (zs ++ a)) := by
 obtain ⟨hk, rfl⟩ := List.getElem?_eq_some_iff.mp hx
 constructor
 ·intro hn
  conv => lhs; rw [← List.take_append_drop k l, List.drop_eq_getElem_cons hk]
  rw [catAll_append, h]
  simp [catAll, hn]
 ·intro a ha
  rw [List.take_succ_eq_append_getElem hk, catAll_append, h]
  simp [catAll, ha]
def sortL (l : List Int) : List Int := l.mergeSort fun x y => decide (x ≤ y)
theorem sort_any (v : Value) (base : Nat) (zs : List Int) (w : World) (hI : Ints w base v zs) (hl : zs.length ≤ 100000000) :
 Calls Tryz.prog 154 #[v] w fun e w' => e = .returned (.tuple #[]) ∧ Ints w' base v (sortL zs) ∧ w.grownBy w' v.ownBlock := by
 rcases hI.2 with ⟨rfl, h0⟩ | ⟨g, cap, cur, rfl, hb, hg, hnc, hcm, hcs, htake⟩
 ·have hz : zs = [] := List.length_eq_zero_iff.mp h0
  subst hz
  refine (Tryz.sort_Ints_none none 0 w).mono ?_
  rintro e w' ⟨rfl, rfl⟩
  exact ⟨rfl, by simpa [sortL] using hI, ⟨rfl, rfl, rfl, Nat.le_refl _, fun _ _ _ => rfl⟩⟩
 ·have hH : Go.Sort.Holds (Value.int .i64) w g 0 zs.toArray := by
   intro j hj
   have hj' : j < zs.length := by simpa using hj
   rw [Nat.zero_add]
   refine ⟨?_, World.ownsRow.frozenAt hI j⟩
   rw [World.ownsRow.cellAt hI j (by omega)]
   simp [ints, List.getElem?_map, List.getElem?_eq_getElem hj', hj']
  refine (Tryz.sort_Ints g 0 cap zs w hH (block_lt hg) (by omega)).mono ?_
  rintro e w' ⟨rfl, n, os, rfl⟩
  have hlen : (sortL zs).length = zs.length := by simp [sortL]
  refine ⟨rfl, ?_, grownBy_sortedI _⟩
  unfold Ints
  rw [hlen]
  exact ownsRow_sortedI (ss := zs) hlen hb hg hnc hcm hcs
theorem Field.open {w : World} {base : Nat} {v : Value} {zs : List Int} {n : Int} (h : Field w base v zs n) (hz : 0 < zs.length) :
 ∃ N g cap, v = .pointer (some ⟨N, 0, none⟩) ∧ w.cell? ⟨N, 0, none⟩ = some (.slice (some ⟨g, 0, none⟩) zs.length cap) ∧ (∀ j u, (ints zs)[j]? = some u → w.cell? ((⟨g, 0, none⟩ : Addr).add j) = some u) := by
 obtain ⟨N, sl, rfl, hb, hN, hI⟩ := h
 obtain ⟨g, cap, rfl, _, _, hc⟩ := hI.form hz
 refine ⟨N, g, cap, rfl, by simp [World.cell?, hN], fun j u hu => ?_⟩
 have ha : (⟨g, 0, none⟩ : Addr).add j = ⟨g, j, none⟩ := by unfold Addr.add; split <;> simp_all
 rw [ha]
 simp only [ints, List.getElem?_map, Option.map_eq_some_iff] at hu
 obtain ⟨x, hx, rfl⟩ := hu
 exact hc j x hx
theorem ints_append (a b : List Int) : ints (a ++ b) = ints a ++ ints b := by simp [ints]
theorem ints_one (a : List Int) : ∀ u ∈ ints a, u.oneCell' = true := by
 intro u hu
 simp only [ints, List.mem_map] at hu
 obtain ⟨x, _, rfl⟩ := hu
 rfl
theorem Ext.own_grown' {w wr w1 : World} {e size n : Nat} {v : Value} {xs : List Value} (h : Ext w wr) (hown : wr.ownsRow w.heap.size e size v n xs) (hg : wr.grownBy w1 v.ownBlock) : Ext w w1 :=
 Below.grown h hg h.size (fun k hk => (hown.lt k hk).1)
def listO (names : List (List UInt8)) (lo hi : Int) (l : List UInt8) : Option (List Int) :=
 match normAll names (outC 45 (outC 47 (splitL l 44))) with
 | none => none
 | some zs => match catAll (stepO names lo hi) (inC 47 (splitL l 44)) with
   | none => none
   | some ss => match catAll (rangeO names lo hi) (inC 45 (outC 47 (splitL l 44))) with
     | none => none
     | some rs => some (sortL (zs ++ ss ++ rs))
theorem inC_mem {c : UInt8} {l : List (List UInt8)} {x : List UInt8} (h : x ∈ inC c l) : x ∈ l := (List.mem_filter.mp h).1
theorem outC_mem {c : UInt8} {l : List (List UInt8)} {x : List UInt8} (h : x ∈ outC c l) : x ∈ l := (List.mem_filter.mp h).1
theorem inC_le (c : UInt8) (l : List (List UInt8)) : (inC c l).length ≤ l.length := List.length_filter_le _ _
theorem outC_le (c : UInt8) (l : List (List UInt8)) : (outC c l).length ≤ l.length := List.length_filter_le _ _
set_option maxHeartbeats 3200000 in
set_option maxRecDepth 1000000 in
theorem parse_list (s : ByteArray) (lo hi : Int) (vn : Value) (names : List (List UInt8)) (w : World) (hs : s.size ≤ 2000) (hlo : 0 ≤ lo) (hhi : hi ≤ 4000) (hvn : Strs w 0 vn names) (hnn : names.length ≤ 13) (hE : Env w) :
 Calls Tryz.prog 120 #[.string s, .agg #[.int .i64 lo, .int .i64 hi], vn] w fun e w' => ((∃ zs v, listO names lo hi (bytes s) = some zs ∧ e = .returned (.tuple #[v, .nilIface]) ∧ Field w' w.heap.size v zs 0) ∨
  (listO names lo hi (bytes s) = none ∧ ∃ t p, e = .returned (.tuple #[.pointer none, .iface t p]))) ∧ Ext w w' := by
 obtain ⟨i0, hi0, hz0, hz1, hz2⟩ := info_parts Tryz.info3
 obtain ⟨an, capn, rfl⟩ := own_any hvn
 have Hvn := Lib.hid hvn
 clear hvn
 obtain ⟨T, hT⟩ : ∃ T, T = splitL (bytes s) 44 := ⟨_, rfl⟩
 have hTl := splitL_len (bytes s) 44
 have hTi := splitL_item (bytes s) 44
 rw [bytes_length] at hTl hTi
 rw [← hT] at hTl hTi
 have hL : listO names lo hi (bytes s) = match normAll names (outC 45 (outC 47 T)) with
  | none => none
  | some zs => match catAll (stepO names lo hi) (inC 47 T) with
    | none => none
    | some ss => match catAll (rangeO names lo hi) (inC 45 (outC 47 T)) with
      | none => none
      | some rs => some (sortL (zs ++ ss ++ rs)) := by rw [hT]; rfl
 have HL := Lib.hid hL
 clear hL
 have HT := Lib.hid hT
 have HTi := Lib.hid hTi
 have hx0 := Ext.alloc w (.cells #[.int .i64 lo, .int .i64 hi] 130)
 clear hT hTi
 go_enter Tryz.func120, Tryz.ntmps120
 go_wp2_with fail
 go_at_call 76
 refine (zz_split s 44 _ (by omega)).mono ?_
 rintro e w1 ⟨v, rfl, hst, hx1⟩
 rw [← HT.out] at hst
 have hlo1 : w1.cell? ⟨w.heap.size, 0, none⟩ = some (.int .i64 lo) := hx1.cell (by simp)
 have hhi1 : w1.cell? ⟨w.heap.size, 1, none⟩ = some (.int .i64 hi) := hx1.cell (by simp)
 have hx01 := hx0.trans hx1
 clear hx0 hx1
 obtain ⟨a1, cap1, rfl⟩ := own_any hst
 have Hst := Lib.hid hst.zero
 clear hst
 go_wp2_with fail
 go_at_call 151
 refine (extract_step _ T _ Hst.out (by omega) (fun x hx => by have := HTi.out x hx; omega)).mono ?_
 rintro e w2 ⟨v1, v2, rfl, hs1, hs2, hx2⟩
 obtain ⟨a2, cap2, rfl⟩ := own_any hs1
 obtain ⟨a3, cap3, rfl⟩ := own_any hs2
 have Hs1 := Lib.hid hs1.zero
 have Hs2 := Lib.hid hs2.zero
 have hlo2 := hx2.cell hlo1
 have hhi2 := hx2.cell hhi1
 have hx02 := hx01.trans hx2
 clear hs1 hs2 hx2 hlo1 hhi1 Hst
 have l1 := outC_le 47 T
 have l2 := inC_le 47 T
 have l3 := outC_le 45 (outC 47 T)
 have l4 := inC_le 45 (outC 47 T)
 go_wp2_with fail
 go_at_call 152
 refine (extract_range _ (outC 47 T) _ Hs1.out (by omega) (fun x hx => by have := HTi.out x (outC_mem hx); omega)).mono ?_
 rintro e w3 ⟨v1, v3, rfl, hs1, hs3, hx3⟩
 obtain ⟨a4, cap4, rfl⟩ := own_any hs1
 obtain ⟨a5, cap5, rfl⟩ := own_any hs3
 have Hv := Lib.hid hs1.zero
 have Hr := Lib.hid hs3.zero
 have hlo3 := hx3.cell hlo2
 have hhi3 := hx3.cell hhi2
 have hx03 := hx02.trans hx3
 have Hs := Lib.hid (Hs2.out.ext hx3)
 clear hs1 hs3 hx3 hlo2 hhi2 Hs1 Hs2
 have hE3 := hE.ext hx03
 go_wp2_with fail
 go_at_call 153
 refine (translate_lits _ _ names (outC 45 (outC 47 T)) _ (Hvn.out.ext hx03) hnn Hv.out (by omega) (fun x hx => by have := HTi.out x (outC_mem (outC_mem hx)); omega) hE3).mono ?_
 rintro e w4 ⟨⟨zs, v', hz, rfl, hI⟩ | ⟨hz, t, p, rfl⟩, hx4⟩
 ·have hzl : zs.length ≤ 2001 := by rw [normAll_len _ _ _ hz]; omega
  have HL2 : Hid (listO names lo hi (bytes s) = match catAll (stepO names lo hi) (inC 47 T) with
   | none => none
   | some ss => match catAll (rangeO names lo hi) (inC 45 (outC 47 T)) with
     | none => none
     | some rs => some (sortL (zs ++ ss ++ rs))) := by
   show _ = _
   rw [HL.out, hz]
  have HI := Lib.hid hI
  clear HL hz hI Hv hE3
  obtain ⟨n, hn0⟩ : ∃ n, n = (inC 47 T).length := ⟨_, rfl⟩
  have hcell : 0 < n → ∃ g, a3 = some ⟨g, 0, none⟩ ∧ ∀ (j : Nat) (x : List UInt8), (inC 47 T)[j]? = some x → w3.cell? ⟨g, j, none⟩ = some (.string (mk x)) := by
   intro h
   obtain ⟨g, cap', he, _, _, hc⟩ := Hs.out.form (by omega)
   injection he with he1
   exact ⟨g, he1, hc⟩
  rw [← hn0]
  have hnb : n ≤ 2001 := by omega
  have Hn := Lib.hid hn0
  clear hn0
  go_wp2_with fail
  go_loopw [12, 15, 16, 17, 45] (fun v12 _ _ _ i wr => ∃ (k : Nat) (ys : List Int), k ≤ n ∧ i = .int .i64 k ∧ Hid (catAll (stepO names lo hi) ((inC 47 T).take k) = some ys) ∧ ys.length ≤ k * 4001 ∧ Hid (Ints wr w3.heap.size v12 (zs ++ ys)) ∧ Ext w3 wr)
   (fun v12 _ _ _ i _ => n - (RowKit.intOf i).toNat)
  case atStart => exact ⟨0, [], Nat.zero_le _, rfl, rfl, by simp, by rw [List.append_nil]; exact HI.out, hx4⟩
  case round =>
   obtain ⟨k, ys, hk, rfl, Hy, hyl, HI2, hx⟩ := hrel
   by_cases hlt : k < n
   ·obtain ⟨g, rfl, hc⟩ := hcell (by omega)
    obtain ⟨x, hxx⟩ : ∃ x, (inC 47 T)[k]? = some x := ⟨_, List.getElem?_eq_getElem (by rw [← Hn.out]; exact hlt)⟩
    have hck := hx.cell (hc k x hxx)
    have hxl := HTi.out x (inC_mem (List.mem_iff_getElem?.mpr ⟨k, hxx⟩))
    have Hsp := Lib.hid (catAll_split (stepO names lo hi) (inC 47 T) k x ys hxx Hy.out)
    have hlor := hx.cell hlo3
    have hhir := hx.cell hhi3
    have hx0r := hx03.trans hx
    clear hxx hc hcell
    go_wp2_with fail
    go_at_call 121
    refine (parse_step (mk x) lo hi _ names _ (by rw [size_mk]; omega) hlo hhi (Hvn.out.ext hx0r) hnn (hE.ext hx0r)).mono ?_
    rintro e w7 ⟨⟨qs, v7, hq, rfl, hF⟩ | ⟨hq, t, p, rfl⟩, hx7⟩
    ·rw [bytes_mk] at hq
     have hql := stepO_len hq hlo hhi
     have Hsp2 := Lib.hid (Hsp.out.2 qs hq)
     obtain ⟨N7, g7, cap7, rfl, hc7, hnews⟩ := hF.open hql.1
     have own7 : w7.ownsRow w3.heap.size 3 1 u12 (zs ++ ys).length (ints (zs ++ ys)) := own_ext hx7 HI2.out
     have Hnews := Lib.hid hnews
     clear hq Hsp hF hnews
     go_wp2_with (first
      | (at_builtin; refine wpList_append_own _ rfl _ _ 38 rfl w3.heap.size 3 i0 (.int .i64 0) 1 8 Tryz.underlying38 hi0 hz0 hz1 hz2 rfl (by decide) _ _ _ rfl own7 ⟨g7, 0, none⟩ qs.length cap7 (ints qs) rfl (by simp [ints]) ?c1 ?c2 ?c3 ?c4 ?c5 ?_)
      | go_in)
     case c1 => exact Hnews.out
     case c2 => exact ints_one qs
     case c3 => unfold maxLen; simp only [List.length_append]; omega
     case c4 => simp only [List.length_append]; omega
     case c5 => exact (hx.trans hx7).size
     intro v' w8 hown' hgrow _
     have A1 : Hid (Ints w8 w3.heap.size v' (zs ++ (ys ++ qs))) := by
      show World.ownsRow _ _ _ _ _ _ _
      have e1 : (zs ++ (ys ++ qs)).length = (zs).length + ys.length + qs.length := by simp [Nat.add_assoc]
      rw [e1, ← List.append_assoc, ints_append]; exact hown'
     have A4 := Ext.own_grown' (hx.trans hx7) own7 hgrow
     clear hown' hgrow own7 Hnews
     go_wp2_with fail
     go_roundw
     case rel => exact ⟨k + 1, ys ++ qs, by omega, by go_num, Hsp2, by simp only [List.length_append]; omega, A1, A4⟩
     case measure => simp [RowKit.intOf]; omega
    ·rw [bytes_mk] at hq
     have hr := Hsp.out.1 hq
     have Hr2 : Hid (listO names lo hi (bytes s) = none) := by
      show _ = _
      rw [HL2.out, hr]
     clear hr hq Hsp
     go_wp2_with fail
     go_ret2
     exact ⟨.inr ⟨Hr2.out, t, p, rfl⟩, hx0r.trans hx7⟩
   ·have hkn : (inC 47 T).take k = (inC 47 T) := List.take_of_length_le (by rw [← Hn.out]; omega)
    rw [hkn] at Hy
    have HL3 : Hid (listO names lo hi (bytes s) = match catAll (rangeO names lo hi) (inC 45 (outC 47 T)) with
     | none => none
     | some rs => some (sortL (zs ++ ys ++ rs))) := by
     show _ = _
     rw [HL2.out, Hy.out]
    have hkb : k ≤ 2001 := by omega
    have HIa := HI2
    have hxa := hx
    have hyb : ys.length ≤ 2001 * 4001 := by omega
    clear HL2 Hy HI2 hx Hn HI hyl hkn hcell
    obtain ⟨ss, hss⟩ : ∃ ss, ss = zs ++ ys := ⟨_, rfl⟩
    have hssl : ss.length ≤ 2001 * 4002 := by rw [hss, List.length_append]; omega
    rw [← hss] at HL3 HIa
    clear hss
    obtain ⟨n, hn0⟩ : ∃ n, n = (inC 45 (outC 47 T)).length := ⟨_, rfl⟩
    have hcell : 0 < n → ∃ g, a5 = some ⟨g, 0, none⟩ ∧ ∀ (j : Nat) (x : List UInt8), (inC 45 (outC 47 T))[j]? = some x → w3.cell? ⟨g, j, none⟩ = some (.string (mk x)) := by
     intro h
     obtain ⟨g, cap', he, _, _, hc⟩ := Hr.out.form (by omega)
     injection he with he1
     exact ⟨g, he1, hc⟩
    rw [← hn0]
    have hnb : n ≤ 2001 := by omega
    have Hn := Lib.hid hn0
    clear hn0
    go_wp2_with fail
    go_loopw [12, 19, 20, 21, 68] (fun v12 _ _ _ i wr => ∃ (k : Nat) (ys : List Int), k ≤ n ∧ i = .int .i64 k ∧ Hid (catAll (rangeO names lo hi) ((inC 45 (outC 47 T)).take k) = some ys) ∧ ys.length ≤ k * 4001 ∧ Hid (Ints wr w3.heap.size v12 (ss ++ ys)) ∧ Ext w3 wr)
     (fun v12 _ _ _ i _ => n - (RowKit.intOf i).toNat)
    case atStart => exact ⟨0, [], Nat.zero_le _, rfl, rfl, by simp, by rw [List.append_nil]; exact HIa.out, hxa⟩
    case round =>
     obtain ⟨k, ys, hk, rfl, Hy, hyl, HI2, hx⟩ := hrel
     by_cases hlt : k < n
     ·obtain ⟨g, rfl, hc⟩ := hcell (by omega)
      obtain ⟨x, hxx⟩ : ∃ x, (inC 45 (outC 47 T))[k]? = some x := ⟨_, List.getElem?_eq_getElem (by rw [← Hn.out]; exact hlt)⟩
      have hck := hx.cell (hc k x hxx)
      have hxl := HTi.out x (outC_mem <| inC_mem (List.mem_iff_getElem?.mpr ⟨k, hxx⟩))
      have Hsp := Lib.hid (catAll_split (rangeO names lo hi) (inC 45 (outC 47 T)) k x ys hxx Hy.out)
      have hlor := hx.cell hlo3
      have hhir := hx.cell hhi3
      have hx0r := hx03.trans hx
      clear hxx hc hcell
      go_wp2_with fail
      go_at_call 122
      refine (parse_range (mk x) lo hi _ names _ (by rw [size_mk]; omega) hlo hhi (Hvn.out.ext hx0r) hnn (hE.ext hx0r)).mono ?_
      rintro e w7 ⟨⟨qs, v7, hq, rfl, hF⟩ | ⟨hq, t, p, rfl⟩, hx7⟩
      ·rw [bytes_mk] at hq
       have hql := rangeO_len hq hlo hhi
       have Hsp2 := Lib.hid (Hsp.out.2 qs hq)
       obtain ⟨N7, g7, cap7, rfl, hc7, hnews⟩ := hF.open hql.1
       have own7 : w7.ownsRow w3.heap.size 3 1 u12 (ss ++ ys).length (ints (ss ++ ys)) := own_ext hx7 HI2.out
       have Hnews := Lib.hid hnews
       clear hq Hsp hF hnews
       go_wp2_with (first
        | (at_builtin; refine wpList_append_own _ rfl _ _ 38 rfl w3.heap.size 3 i0 (.int .i64 0) 1 8 Tryz.underlying38 hi0 hz0 hz1 hz2 rfl (by decide) _ _ _ rfl own7 ⟨g7, 0, none⟩ qs.length cap7 (ints qs) rfl (by simp [ints]) ?c1 ?c2 ?c3 ?c4 ?c5 ?_)
        | go_in)
       case c1 => exact Hnews.out
       case c2 => exact ints_one qs
       case c3 => unfold maxLen; simp only [List.length_append]; omega
       case c4 => simp only [List.length_append]; omega
       case c5 => exact (hx.trans hx7).size
       intro v' w8 hown' hgrow _
       have A1 : Hid (Ints w8 w3.heap.size v' (ss ++ (ys ++ qs))) := by
        show World.ownsRow _ _ _ _ _ _ _
        have e1 : (ss ++ (ys ++ qs)).length = (ss).length + ys.length + qs.length := by simp [Nat.add_assoc]
        rw [e1, ← List.append_assoc, ints_append]; exact hown'
       have A4 := Ext.own_grown' (hx.trans hx7) own7 hgrow
       clear hown' hgrow own7 Hnews
       go_wp2_with fail
       go_roundw
       case rel => exact ⟨k + 1, ys ++ qs, by omega, by go_num, Hsp2, by simp only [List.length_append]; omega, A1, A4⟩
       case measure => simp [RowKit.intOf]; omega
      ·rw [bytes_mk] at hq
       have hr := Hsp.out.1 hq
       have Hr2 : Hid (listO names lo hi (bytes s) = none) := by
        show _ = _
        rw [HL3.out, hr]
       clear hr hq Hsp
       go_wp2_with fail
       go_ret2
       exact ⟨.inr ⟨Hr2.out, t, p, rfl⟩, hx0r.trans hx7⟩
     ·have hkn : (inC 45 (outC 47 T)).take k = (inC 45 (outC 47 T)) := List.take_of_length_le (by rw [← Hn.out]; omega)
      rw [hkn] at Hy
      have Hr2 : Hid (listO names lo hi (bytes s) = some (sortL (ss ++ ys))) := by
       show _ = _
       rw [HL3.out, Hy.out]
      obtain ⟨ao, co, rfl⟩ := own_any HI2.out
      have hlen : (ss ++ ys).length ≤ 100000000 := by simp only [List.length_append]; omega
      obtain ⟨m, hm⟩ : ∃ m, m = (ss ++ ys).length := ⟨_, rfl⟩
      rw [← hm] at HI2 ⊢
      clear hm
      clear HL3 Hy hcell
      go_wp2_with fail
      go_at_call 154
      refine (sort_any _ w3.heap.size (ss ++ ys) _ HI2.out hlen).mono ?_
      rintro e w8 ⟨rfl, hIs, hgr⟩
      have hx8 := Ext.own_grown' hx HI2.out hgr
      have HI3 := Lib.hid (Ints.mono hIs hx03.size)
      clear hgr hIs HI2
      go_wp2_with fail
      go_at_call 118
      refine (new_field _ _ _ _).mono ?_
      rintro e w9 ⟨rfl, rfl⟩
      go_wp2_with fail
      go_ret2
      exact ⟨.inl ⟨_, _, Hr2.out, rfl, Field.mk HI3.out (hx03.trans hx8).size⟩, (hx03.trans hx8).trans (Ext.alloc _ _)⟩
 ·have Hr2 : Hid (listO names lo hi (bytes s) = none) := by
   show _ = _
   rw [HL.out, hz]
  clear hz HL
  go_wp2_with fail
  go_ret2
  exact ⟨.inr ⟨Hr2.out, t, p, rfl⟩, hx03.trans hx4⟩
end Go.Proofs.YtmaffdhcmdhjfaaGreatDoor
namespace Go.Proofs.YtmaffdhcmdhjfaaGreatDoor
open Go.RowKit Go.Lib
def fieldO (names : List (List UInt8)) (lo hi : Int) (l : List UInt8) : Option (List Int) :=
 if l = [42] ∨ l = [63] then some []
 else if l.contains 44 then listO names lo hi l
 else if l.contains 47 then stepO names lo hi l
 else if l.contains 45 then rangeO names lo hi l
 else match normalizeO names l with
  | none => none
  | some x => if within lo hi x then some [x] else none
theorem Field.nil (w : World) (n : Int) : Field ((w.alloc (.cells #[] 3)).alloc (.cells #[.slice (some ⟨w.heap.size, 0, none⟩) 0 0, .int .i64 n] 92)) w.heap.size (.pointer (some ⟨w.heap.size + 1, 0, none⟩)) [] n := by
 have h : Ints (w.alloc (.cells #[] 3)) w.heap.size (.slice (some ⟨w.heap.size, 0, none⟩) 0 0) [] := World.ownsRow_lit w (e := 3) (size := 1) #[] 0 (Nat.le_refl _) (by decide) rfl
 have := Field.mk (n := n) h (by simp)
 simpa using this
theorem Field.one (w : World) (x n : Int) : Field ((w.alloc (.cells #[.int .i64 x] 3)).alloc (.cells #[.slice (some ⟨w.heap.size, 0, none⟩) 1 1, .int .i64 n] 92)) w.heap.size (.pointer (some ⟨w.heap.size + 1, 0, none⟩)) [x] n := by
 have h : Ints (w.alloc (.cells #[.int .i64 x] 3)) w.heap.size (.slice (some ⟨w.heap.size, 0, none⟩) 1 1) [x] := World.ownsRow_lit w (e := 3) (size := 1) #[.int .i64 x] 1 (Nat.le_refl _) (by decide) rfl
 have := Field.mk (n := n) h (by simp)
 simpa using this
theorem str_yes {s : ByteArray} {l : List UInt8} (h : bytes s = l) : (s.toList == l) = true := by rw [toList_bytes, h]; simp
theorem str_no {s : ByteArray} {l : List UInt8} (h : ¬ bytes s = l) : (s.toList == l) = false := by rw [toList_bytes, beq_eq_false_iff_ne]; exact h
set_option maxHeartbeats 3200000 in
set_option maxRecDepth 1000000 in
theorem parse_field (s : ByteArray) (lo hi : Int) (vn : Value) (names : List (List UInt8)) (w : World) (hs : s.size ≤ 2000) (hlo : 0 ≤ lo) (hhi : hi ≤ 4000) (hvn : Strs w 0 vn names) (hnn : names.length ≤ 13) (hE : Env w) :
 Calls Tryz.prog 90 #[.string s, .agg #[.int .i64 lo, .int .i64 hi], vn] w fun e w' => ((∃ zs v, fieldO names lo hi (bytes s) = some zs ∧ e = .returned (.tuple #[v, .nilIface]) ∧ Field w' w.heap.size v zs 0) ∨
  (fieldO names lo hi (bytes s) = none ∧ ∃ t p, e = .returned (.tuple #[.pointer none, .iface t p]))) ∧ Ext w w' := by
 obtain ⟨an, capn, rfl⟩ := own_any hvn
 have hx0 := Ext.alloc w (.cells #[.int .i64 lo, .int .i64 hi] 130)
 have hE0 := hE.ext hx0
 have hvn0 := hvn.ext hx0
 have Hvn := Lib.hid hvn0
 clear hvn hvn0
 have fin : Field (((w.alloc (.cells #[.int .i64 lo, .int .i64 hi] 130)).alloc (.cells #[] 3)).alloc (.cells #[.slice (some ⟨w.heap.size + 1, 0, none⟩) 0 0, .int .i64 0] 92)) w.heap.size (.pointer (some ⟨w.heap.size + 1 + 1, 0, none⟩)) [] 0 := by
  have := (Field.nil (w.alloc (.cells #[.int .i64 lo, .int .i64 hi] 130)) 0).mono hx0.size
  simpa using this
 have fin1 : ∀ x, Field (((w.alloc (.cells #[.int .i64 lo, .int .i64 hi] 130)).alloc (.cells #[.int .i64 x] 3)).alloc (.cells #[.slice (some ⟨w.heap.size + 1, 0, none⟩) 1 1, .int .i64 0] 92)) w.heap.size (.pointer (some ⟨w.heap.size + 1 + 1, 0, none⟩)) [x] 0 := by
  intro x
  have := (Field.one (w.alloc (.cells #[.int .i64 lo, .int .i64 hi] 130)) x 0).mono hx0.size
  simpa using this
 have Hfin := Lib.hid fin
 have Hfin1 := Lib.hid fin1
 clear fin fin1
 by_cases hany : bytes s = [42] ∨ bytes s = [63]
 ·have hr : fieldO names lo hi (bytes s) = some [] := by unfold fieldO; rw [if_pos hany]
  have Hr := Lib.hid hr
  by_cases h1 : bytes s = [42]
  ·have e1 := str_yes h1
   clear hr h1 hany
   go_enter Tryz.func90, Tryz.ntmps90
   go_wp2_with fail
   go_at_call 118
   refine (new_field _ _ _ _).mono ?_
   rintro e w1 ⟨rfl, rfl⟩
   go_wp2_with fail
   go_ret2
   exact ⟨.inl ⟨_, _, Hr.out, rfl, by simpa using Hfin.out⟩, (hx0.trans (Ext.alloc _ _)).trans (Ext.alloc _ _)⟩
  ·have e1 := str_no h1
   have e2 := str_yes (hany.resolve_left h1)
   clear hr h1 hany
   go_enter Tryz.func90, Tryz.ntmps90
   go_wp2_with fail
   go_at_call 118
   refine (new_field _ _ _ _).mono ?_
   rintro e w1 ⟨rfl, rfl⟩
   go_wp2_with fail
   go_ret2
   exact ⟨.inl ⟨_, _, Hr.out, rfl, by simpa using Hfin.out⟩, (hx0.trans (Ext.alloc _ _)).trans (Ext.alloc _ _)⟩
 ·have hF : fieldO names lo hi (bytes s) = if (bytes s).contains 44 then listO names lo hi (bytes s)
   else if (bytes s).contains 47 then stepO names lo hi (bytes s)
   else if (bytes s).contains 45 then rangeO names lo hi (bytes s)
   else match normalizeO names (bytes s) with
    | none => none
    | some x => if within lo hi x then some [x] else none := by unfold fieldO; rw [if_neg hany]
  have HF := Lib.hid hF
  have e1 := str_no (fun h => hany (.inl h))
  have e2 := str_no (fun h => hany (.inr h))
  clear hF hany
  go_enter Tryz.func90, Tryz.ntmps90
  go_wp2_with fail
  go_at_call 119
  refine (zz_has s 44 _ (by omega)).mono ?_
  rintro e w1 ⟨rfl, rfl⟩
  rcases h44 : (bytes s).contains 44
  ·skip
   go_wp2_with fail
   go_at_call 119
   refine (zz_has s 47 _ (by omega)).mono ?_
   rintro e w1 ⟨rfl, rfl⟩
   rcases h47 : (bytes s).contains 47
   ·skip
    go_wp2_with fail
    go_at_call 119
    refine (zz_has s 45 _ (by omega)).mono ?_
    rintro e w1 ⟨rfl, rfl⟩
    rcases h45 : (bytes s).contains 45
    ·have hF2 : fieldO names lo hi (bytes s) = match normalizeO names (bytes s) with
      | none => none
      | some x => if within lo hi x then some [x] else none := by rw [HF.out, h44, h47, h45]; rfl
     have HF2 := Lib.hid hF2
     clear hF2 HF h44 h47 h45
     go_wp2_with fail
     go_at_call 123
     refine (normalize_any _ names s _ (by omega) hnn hE0 Hvn.out).mono ?_
     rintro e w1 ⟨⟨x, hm, rfl⟩ | ⟨hm, m, t, p, rfl⟩, hx1⟩
     ·have hF3 : fieldO names lo hi (bytes s) = if within lo hi x then some [x] else none := by rw [HF2.out, hm]
      have HF3 := Lib.hid hF3
      have hlo1 : w1.cell? ⟨w.heap.size, 0, none⟩ = some (.int .i64 lo) := hx1.cell (by simp)
      have hhi1 : w1.cell? ⟨w.heap.size, 1, none⟩ = some (.int .i64 hi) := hx1.cell (by simp)
      clear hF3 HF2 hm
      go_wp2_with fail
      go_at_call 124
      refine (in_scope' x lo hi _).mono ?_
      rintro e w9 ⟨rfl, rfl⟩
      rcases hwx : within lo hi x
      ·have Hr2 : Hid (fieldO names lo hi (bytes s) = none) := by
        show _ = _
        rw [HF3.out, hwx]; rfl
       clear hwx
       go_wp2_with fail
       go_at_call 125
       refine (new_invalid s _ _ (hE0.ext hx1) (by omega) (by decide)).mono ?_
       rintro e w5 ⟨t, p, rfl, hx5⟩
       go_wp2_with fail
       go_ret2
       exact ⟨.inr ⟨Hr2.out, t, p, rfl⟩, (hx0.trans hx1).trans hx5⟩
      ·have Hr2 : Hid (fieldO names lo hi (bytes s) = some [x]) := by
        show _ = _
        rw [HF3.out, hwx]; rfl
       clear hwx HF3 hlo1 hhi1
       have F1 := Lib.hid ((Field.one w1 x 0).mono (hx0.trans hx1).size)
       go_wp2_with fail
       go_at_call 118
       refine (new_field _ _ _ _).mono ?_
       rintro e w2 ⟨rfl, rfl⟩
       go_wp2_with fail
       go_ret2
       exact ⟨.inl ⟨_, _, Hr2.out, rfl, by simpa using F1.out⟩, ((hx0.trans hx1).trans (Ext.alloc _ _)).trans (Ext.alloc _ _)⟩
     ·have Hr2 : Hid (fieldO names lo hi (bytes s) = none) := by
       show _ = _
       rw [HF2.out, hm]
      clear hm HF2
      go_wp2_with fail
      go_ret2
      exact ⟨.inr ⟨Hr2.out, t, p, rfl⟩, hx0.trans hx1⟩
    ·skip
     have Hr : Hid (fieldO names lo hi (bytes s) = rangeO names lo hi (bytes s)) := by
      show _ = _
      rw [HF.out, h44, h47, h45]; simp only [Bool.false_eq_true, if_false, if_true]
     clear h44 h47 h45 HF
     go_wp2_with fail
     go_at_call 122
     refine (parse_range s lo hi _ names _ (by omega) hlo hhi Hvn.out hnn hE0).mono ?_
     rintro e w2 ⟨⟨zs, v, hz, rfl, hF⟩ | ⟨hz, t, p, rfl⟩, hx⟩
     ·have HF2 := Lib.hid (hF.mono hx0.size)
      have Hz := Lib.hid (Hr.out.trans hz)
      clear hF hz Hr
      go_wp2_with fail
      go_ret2
      exact ⟨.inl ⟨zs, _, Hz.out, rfl, HF2.out⟩, hx0.trans hx⟩
     ·have Hz := Lib.hid (Hr.out.trans hz)
      clear hz Hr
      go_wp2_with fail
      go_ret2
      exact ⟨.inr ⟨Hz.out, t, p, rfl⟩, hx0.trans hx⟩
   ·skip
    have Hr : Hid (fieldO names lo hi (bytes s) = stepO names lo hi (bytes s)) := by
     show _ = _
     rw [HF.out, h44, h47]; simp only [Bool.false_eq_true, if_false, if_true]
    clear h44 h47 HF
    go_wp2_with fail
    go_at_call 121
    refine (parse_step s lo hi _ names _ (by omega) hlo hhi Hvn.out hnn hE0).mono ?_
    rintro e w2 ⟨⟨zs, v, hz, rfl, hF⟩ | ⟨hz, t, p, rfl⟩, hx⟩
    ·have HF2 := Lib.hid (hF.mono hx0.size)
     have Hz := Lib.hid (Hr.out.trans hz)
     clear hF hz Hr
     go_wp2_with fail
     go_ret2
     exact ⟨.inl ⟨zs, _, Hz.out, rfl, HF2.out⟩, hx0.trans hx⟩
    ·have Hz := Lib.hid (Hr.out.trans hz)
     clear hz Hr
     go_wp2_with fail
     go_ret2
     exact ⟨.inr ⟨Hz.out, t, p, rfl⟩, hx0.trans hx⟩
  ·skip
   have Hr : Hid (fieldO names lo hi (bytes s) = listO names lo hi (bytes s)) := by
    show _ = _
    rw [HF.out, h44]; simp only [Bool.false_eq_true, if_false, if_true]
   clear h44 HF
   go_wp2_with fail
   go_at_call 120
   refine (parse_list s lo hi _ names _ (by omega) hlo hhi Hvn.out hnn hE0).mono ?_
   rintro e w2 ⟨⟨zs, v, hz, rfl, hF⟩ | ⟨hz, t, p, rfl⟩, hx⟩
   ·have HF2 := Lib.hid (hF.mono hx0.size)
    have Hz := Lib.hid (Hr.out.trans hz)
    clear hF hz Hr
    go_wp2_with fail
    go_ret2
    exact ⟨.inl ⟨zs, _, Hz.out, rfl, HF2.out⟩, hx0.trans hx⟩
   ·have Hz := Lib.hid (Hr.out.trans hz)
    clear hz Hr
    go_wp2_with fail
    go_ret2
    exact ⟨.inr ⟨Hz.out, t, p, rfl⟩, hx0.trans hx⟩
end Go.Proofs.YtmaffdhcmdhjfaaGreatDoor
namespace Go.Proofs.YtmaffdhcmdhjfaaGreatDoor
open Go.RowKit Go.Lib
def domO (names : List (List UInt8)) (lo hi : Int) (l : List UInt8) : Option (List Int × Int) :=
 if l.contains 76 && lastDayB l then
  if l = [76] then some (([] : List Int), (1 : Int))
  else match splitL l 45 with
   | [_, b] => match atoiO b with
     | none => none
     | some n => if within lo hi n then some (([] : List Int), -n) else none
   | _ => none
 else if l.contains 87 then
  if l = [76, 87] then some ([(0 : Int)], (3 : Int))
  else if weekdayB l then match atoiO l.dropLast with
   | none => none
   | some n => if within lo hi n then some ([n], (2 : Int)) else none
  else (fieldO names lo hi l).map fun z => (z, (0 : Int))
 else (fieldO names lo hi l).map fun z => (z, (0 : Int))
def dowO (names : List (List UInt8)) (lo hi : Int) (l : List UInt8) : Option (List Int × Int) :=
 if l.contains 76 && lastWeekdayB l then
  if l.dropLast = [] then some ([(7 : Int)], (-1 : Int))
  else match normalizeO names l.dropLast with
   | none => none
   | some n => if within lo hi n then some ([n], (-1 : Int)) else none
 else if l.contains 35 && hashB l then match splitL l 35 with
  | [a, b] => match normalizeO names a with
    | none => none
    | some d => if within lo hi d then match atoiO b with
       | none => none
       | some n => if within 1 5 n then some ([d], n) else none
      else none
  | _ => none
 else (fieldO names lo hi l).map fun z => (z, (0 : Int))
theorem weekdayB_size {s : ByteArray} (h : weekdayB (bytes s) = true) : 1 < s.size := by
 unfold weekdayB at h
 simp only [Bool.and_eq_true, decide_eq_true_eq] at h
 have := h.1
 rwa [bytes_length] at this
theorem lastWeekdayB_size {s : ByteArray} (h : lastWeekdayB (bytes s) = true) : 0 < s.size := by
 unfold lastWeekdayB at h
 simp only [Bool.and_eq_true, decide_eq_true_eq] at h
 have := h.1
 rwa [bytes_length] at this
set_option maxHeartbeats 3200000 in
set_option maxRecDepth 1000000 in
theorem parse_dom (s : ByteArray) (lo hi : Int) (vn : Value) (names : List (List UInt8)) (w : World) (hs : s.size ≤ 2000) (hlo : 0 ≤ lo) (hhi : hi ≤ 4000) (hvn : Strs w 0 vn names) (hnn : names.length ≤ 13) (hE : Env w) :
 Calls Tryz.prog 91 #[.string s, .agg #[.int .i64 lo, .int .i64 hi], vn] w fun e w' => ((∃ zs n v, domO names lo hi (bytes s) = some (zs, n) ∧ e = .returned (.tuple #[v, .nilIface]) ∧ Field w' w.heap.size v zs n) ∨
  (domO names lo hi (bytes s) = none ∧ ∃ t p, e = .returned (.tuple #[.pointer none, .iface t p]))) ∧ Ext w w' := by
 obtain ⟨an, capn, rfl⟩ := own_any hvn
 have hx0 := Ext.alloc w (.cells #[.int .i64 lo, .int .i64 hi] 130)
 have hlo0 : (w.alloc (.cells #[.int .i64 lo, .int .i64 hi] 130)).cell? ⟨w.heap.size, 0, none⟩ = some (.int .i64 lo) := by simp
 have hhi0 : (w.alloc (.cells #[.int .i64 lo, .int .i64 hi] 130)).cell? ⟨w.heap.size, 1, none⟩ = some (.int .i64 hi) := by simp
 have hE0 := hE.ext hx0
 have hvn0 := hvn.ext hx0
 have Hvn := Lib.hid hvn0
 clear hvn hvn0
 go_enter Tryz.func91, Tryz.ntmps91
 go_wp2_with fail
 obtain ⟨w0, hw0⟩ : ∃ w0, w0 = w.alloc (.cells #[.int .i64 lo, .int .i64 hi] 130) := ⟨_, rfl⟩
 rw [← hw0] at hx0 hlo0 hhi0 hE0 Hvn ⊢
 clear hw0
 go_at_call 119
 refine (zz_has s 76 _ (by omega)).mono ?_
 rintro e w1 ⟨rfl, rfl⟩
 rcases h76 : (bytes s).contains 76
 ·have hcond : ((bytes s).contains 76 && lastDayB (bytes s)) = false := by rw [h76]; rfl
  clear h76
  have hF : domO names lo hi (bytes s) = if (bytes s).contains 87 then
   if bytes s = [76, 87] then some ([(0 : Int)], (3 : Int))
   else if weekdayB (bytes s) then match atoiO (bytes s).dropLast with
    | none => none
    | some n => if within lo hi n then some ([n], (2 : Int)) else none
   else (fieldO names lo hi (bytes s)).map fun z => (z, (0 : Int))
   else (fieldO names lo hi (bytes s)).map fun z => (z, (0 : Int)) := by unfold domO; rw [if_neg (by rw [hcond]; decide)]
  have HF := Lib.hid hF
  clear hF hcond
  go_wp2_with fail
  go_at_call 119
  refine (zz_has s 87 _ (by omega)).mono ?_
  rintro e w1 ⟨rfl, rfl⟩
  rcases h87 : (bytes s).contains 87
  ·skip
   have Hr : Hid (domO names lo hi (bytes s) = (fieldO names lo hi (bytes s)).map fun z => (z, (0 : Int))) := by
    show _ = _
    rw [HF.out, h87]; rfl
   clear HF h87
   go_wp2_with fail
   go_at_call 90
   refine (parse_field s lo hi _ names _ hs hlo hhi (Hvn.out.ext (Ext.refl _)) hnn (hE0.ext (Ext.refl _))).mono ?_
   rintro e w12 ⟨⟨zs, v, hz, rfl, hF⟩ | ⟨hz, t, p, rfl⟩, hx12⟩
   ·have HF2 := Lib.hid (hF.mono (hx0.trans (Ext.refl _)).size)
    have Hz : Hid (domO names lo hi (bytes s) = some (zs, 0)) := by
     show _ = _
     rw [Hr.out, hz]; rfl
    clear hF hz Hr
    go_wp2_with fail
    go_ret2
    exact ⟨.inl ⟨zs, 0, _, Hz.out, rfl, HF2.out⟩, (hx0.trans (Ext.refl _)).trans hx12⟩
   ·have Hz : Hid (domO names lo hi (bytes s) = none) := by
     show _ = _
     rw [Hr.out, hz]; rfl
    clear hz Hr
    go_wp2_with fail
    go_ret2
    exact ⟨.inr ⟨Hz.out, t, p, rfl⟩, (hx0.trans (Ext.refl _)).trans hx12⟩
  ·have hF : domO names lo hi (bytes s) = if bytes s = [76, 87] then some ([(0 : Int)], (3 : Int))
    else if weekdayB (bytes s) then match atoiO (bytes s).dropLast with
     | none => none
     | some n => if within lo hi n then some ([n], (2 : Int)) else none
    else (fieldO names lo hi (bytes s)).map fun z => (z, (0 : Int)) := by rw [HF.out, h87]; rfl
   have HG := Lib.hid hF
   clear hF h87 HF
   by_cases hlw : bytes s = [76, 87]
   ·have Hr2 : Hid (domO names lo hi (bytes s) = some ([(0 : Int)], (3 : Int))) := by
     show _ = _
     rw [HG.out, if_pos hlw]
    have e1 := str_yes hlw
    clear HG hlw hlo0 hhi0
    have F1 := Lib.hid ((Field.one w0 (0) (3)).mono (hx0).size)
    go_wp2_with fail
    go_at_call 127
    refine (new_fieldN _ _ _ _ _).mono ?_
    rintro e w20 ⟨rfl, rfl⟩
    go_wp2_with fail
    go_ret2
    exact ⟨.inl ⟨_, _, _, Hr2.out, rfl, by simpa using F1.out⟩, ((hx0).trans (Ext.alloc _ _)).trans (Ext.alloc _ _)⟩
   ·have hF : domO names lo hi (bytes s) = if weekdayB (bytes s) then match atoiO (bytes s).dropLast with
     | none => none
     | some n => if within lo hi n then some ([n], (2 : Int)) else none
     else (fieldO names lo hi (bytes s)).map fun z => (z, (0 : Int)) := by rw [HG.out, if_neg hlw]
    have HF := Lib.hid hF
    have e1 := str_no hlw
    clear hF hlw HG
    go_wp2_with fail
    go_at_call 129
    refine (is_weekday s _ (by omega)).mono ?_
    rintro e w1 ⟨rfl, rfl⟩
    rcases hwd : weekdayB (bytes s)
    ·skip
     have Hr : Hid (domO names lo hi (bytes s) = (fieldO names lo hi (bytes s)).map fun z => (z, (0 : Int))) := by
      show _ = _
      rw [HF.out, hwd]; rfl
     clear HF hwd e1
     go_wp2_with fail
     go_at_call 90
     refine (parse_field s lo hi _ names _ hs hlo hhi (Hvn.out.ext (Ext.refl _)) hnn (hE0.ext (Ext.refl _))).mono ?_
     rintro e w12 ⟨⟨zs, v, hz, rfl, hF⟩ | ⟨hz, t, p, rfl⟩, hx12⟩
     ·have HF2 := Lib.hid (hF.mono (hx0.trans (Ext.refl _)).size)
      have Hz : Hid (domO names lo hi (bytes s) = some (zs, 0)) := by
       show _ = _
       rw [Hr.out, hz]; rfl
      clear hF hz Hr
      go_wp2_with fail
      go_ret2
      exact ⟨.inl ⟨zs, 0, _, Hz.out, rfl, HF2.out⟩, (hx0.trans (Ext.refl _)).trans hx12⟩
     ·have Hz : Hid (domO names lo hi (bytes s) = none) := by
       show _ = _
       rw [Hr.out, hz]; rfl
      clear hz Hr
      go_wp2_with fail
      go_ret2
      exact ⟨.inr ⟨Hz.out, t, p, rfl⟩, (hx0.trans (Ext.refl _)).trans hx12⟩
    ·have hsz := weekdayB_size hwd
     have hF : domO names lo hi (bytes s) = match atoiO (bytes s).dropLast with
      | none => none
      | some n => if within lo hi n then some ([n], (2 : Int)) else none := by rw [HF.out, hwd]; rfl
     have HG := Lib.hid hF
     have hne : ¬ bytes (mk (bytes s).dropLast) = [] := by
      rw [bytes_mk]
      intro h
      have := congrArg List.length h
      simp [bytes_length] at this
      omega
     have e2 := str_no hne
     have hsz2 : (mk (bytes s).dropLast).size ≤ 2000 := by rw [size_mk, List.length_dropLast, bytes_length]; omega
     clear hF hwd HF hne
     go_wp2_with fail
     go_at_call 130
     refine (without_last s _ (by omega) (by omega)).mono ?_
     rintro e w1 ⟨rfl, rfl⟩
     go_wp2_with fail
     go_at_call 128
     refine (atoi_any _ _ (by omega) hE0).mono ?_
     rintro e w1 ⟨⟨n, hn, rfl⟩ | ⟨hn, m, t, p, rfl⟩, hx1⟩
     ·rw [bytes_mk] at hn
      have hF : domO names lo hi (bytes s) = if within lo hi n then some ([n], (2 : Int)) else none := by rw [HG.out, hn]
      have HF := Lib.hid hF
      have hlo1 := hx1.cell hlo0
      have hhi1 := hx1.cell hhi0
      clear hF HG hn hlo0 hhi0
      go_wp2_with fail
      go_at_call 124
      refine (in_scope' n lo hi _).mono ?_
      rintro e w9 ⟨rfl, rfl⟩
      rcases hwx : within lo hi n
      ·have Hr2 : Hid (domO names lo hi (bytes s) = none) := by
        show _ = _
        rw [HF.out, hwx]; rfl
       clear hwx
       go_wp2_with fail
       go_at_call 125
       refine (new_invalid s _ _ (hE0.ext hx1) (by omega) (by decide)).mono ?_
       rintro e w5 ⟨t, p, rfl, hx5⟩
       go_wp2_with fail
       go_ret2
       exact ⟨.inr ⟨Hr2.out, t, p, rfl⟩, (hx0.trans hx1).trans hx5⟩
      ·have Hr2 : Hid (domO names lo hi (bytes s) = some ([n], (2 : Int))) := by
        show _ = _
        rw [HF.out, hwx]; rfl
       clear hwx HF hlo1 hhi1
       have F1 := Lib.hid ((Field.one w1 (n) (2)).mono (hx0.trans hx1).size)
       go_wp2_with fail
       go_at_call 127
       refine (new_fieldN _ _ _ _ _).mono ?_
       rintro e w20 ⟨rfl, rfl⟩
       go_wp2_with fail
       go_ret2
       exact ⟨.inl ⟨_, _, _, Hr2.out, rfl, by simpa using F1.out⟩, ((hx0.trans hx1).trans (Ext.alloc _ _)).trans (Ext.alloc _ _)⟩
     ·rw [bytes_mk] at hn
      have Hr2 : Hid (domO names lo hi (bytes s) = none) := by
       show _ = _
       rw [HG.out, hn]
      clear hn HG hlo0 hhi0
      go_wp2_with fail
      go_at_call 125
      refine (new_invalid s _ _ (hE0.ext hx1) (by omega) (by decide)).mono ?_
      rintro e w5 ⟨t, p, rfl, hx5⟩
      go_wp2_with fail
      go_ret2
      exact ⟨.inr ⟨Hr2.out, t, p, rfl⟩, (hx0.trans hx1).trans hx5⟩
 ·go_wp2_with fail
  go_at_call 126
  refine (is_last_day s _ (by omega)).mono ?_
  rintro e w1 ⟨rfl, rfl⟩
  rcases hld : lastDayB (bytes s)
  ·have hcond : ((bytes s).contains 76 && lastDayB (bytes s)) = false := by rw [h76, hld]; rfl
   clear h76 hld
   have hF : domO names lo hi (bytes s) = if (bytes s).contains 87 then
    if bytes s = [76, 87] then some ([(0 : Int)], (3 : Int))
    else if weekdayB (bytes s) then match atoiO (bytes s).dropLast with
     | none => none
     | some n => if within lo hi n then some ([n], (2 : Int)) else none
    else (fieldO names lo hi (bytes s)).map fun z => (z, (0 : Int))
    else (fieldO names lo hi (bytes s)).map fun z => (z, (0 : Int)) := by unfold domO; rw [if_neg (by rw [hcond]; decide)]
   have HF := Lib.hid hF
   clear hF hcond
   go_wp2_with fail
   go_at_call 119
   refine (zz_has s 87 _ (by omega)).mono ?_
   rintro e w1 ⟨rfl, rfl⟩
   rcases h87 : (bytes s).contains 87
   ·skip
    have Hr : Hid (domO names lo hi (bytes s) = (fieldO names lo hi (bytes s)).map fun z => (z, (0 : Int))) := by
     show _ = _
     rw [HF.out, h87]; rfl
    clear HF h87
    go_wp2_with fail
    go_at_call 90
    refine (parse_field s lo hi _ names _ hs hlo hhi (Hvn.out.ext (Ext.refl _)) hnn (hE0.ext (Ext.refl _))).mono ?_
    rintro e w12 ⟨⟨zs, v, hz, rfl, hF⟩ | ⟨hz, t, p, rfl⟩, hx12⟩
    ·have HF2 := Lib.hid (hF.mono (hx0.trans (Ext.refl _)).size)
     have Hz : Hid (domO names lo hi (bytes s) = some (zs, 0)) := by
      show _ = _
      rw [Hr.out, hz]; rfl
     clear hF hz Hr
     go_wp2_with fail
     go_ret2
     exact ⟨.inl ⟨zs, 0, _, Hz.out, rfl, HF2.out⟩, (hx0.trans (Ext.refl _)).trans hx12⟩
    ·have Hz : Hid (domO names lo hi (bytes s) = none) := by
      show _ = _
      rw [Hr.out, hz]; rfl
     clear hz Hr
     go_wp2_with fail
     go_ret2
     exact ⟨.inr ⟨Hz.out, t, p, rfl⟩, (hx0.trans (Ext.refl _)).trans hx12⟩
   ·have hF : domO names lo hi (bytes s) = if bytes s = [76, 87] then some ([(0 : Int)], (3 : Int))
     else if weekdayB (bytes s) then match atoiO (bytes s).dropLast with
      | none => none
      | some n => if within lo hi n then some ([n], (2 : Int)) else none
     else (fieldO names lo hi (bytes s)).map fun z => (z, (0 : Int)) := by rw [HF.out, h87]; rfl
    have HG := Lib.hid hF
    clear hF h87 HF
    by_cases hlw : bytes s = [76, 87]
    ·have Hr2 : Hid (domO names lo hi (bytes s) = some ([(0 : Int)], (3 : Int))) := by
      show _ = _
      rw [HG.out, if_pos hlw]
     have e1 := str_yes hlw
     clear HG hlw hlo0 hhi0
     have F1 := Lib.hid ((Field.one w0 (0) (3)).mono (hx0).size)
     go_wp2_with fail
     go_at_call 127
     refine (new_fieldN _ _ _ _ _).mono ?_
     rintro e w20 ⟨rfl, rfl⟩
     go_wp2_with fail
     go_ret2
     exact ⟨.inl ⟨_, _, _, Hr2.out, rfl, by simpa using F1.out⟩, ((hx0).trans (Ext.alloc _ _)).trans (Ext.alloc _ _)⟩
    ·have hF : domO names lo hi (bytes s) = if weekdayB (bytes s) then match atoiO (bytes s).dropLast with
      | none => none
      | some n => if within lo hi n then some ([n], (2 : Int)) else none
      else (fieldO names lo hi (bytes s)).map fun z => (z, (0 : Int)) := by rw [HG.out, if_neg hlw]
     have HF := Lib.hid hF
     have e1 := str_no hlw
     clear hF hlw HG
     go_wp2_with fail
     go_at_call 129
     refine (is_weekday s _ (by omega)).mono ?_
     rintro e w1 ⟨rfl, rfl⟩
     rcases hwd : weekdayB (bytes s)
     ·skip
      have Hr : Hid (domO names lo hi (bytes s) = (fieldO names lo hi (bytes s)).map fun z => (z, (0 : Int))) := by
       show _ = _
       rw [HF.out, hwd]; rfl
      clear HF hwd e1
      go_wp2_with fail
      go_at_call 90
      refine (parse_field s lo hi _ names _ hs hlo hhi (Hvn.out.ext (Ext.refl _)) hnn (hE0.ext (Ext.refl _))).mono ?_
      rintro e w12 ⟨⟨zs, v, hz, rfl, hF⟩ | ⟨hz, t, p, rfl⟩, hx12⟩
      ·have HF2 := Lib.hid (hF.mono (hx0.trans (Ext.refl _)).size)
       have Hz : Hid (domO names lo hi (bytes s) = some (zs, 0)) := by
        show _ = _
        rw [Hr.out, hz]; rfl
       clear hF hz Hr
       go_wp2_with fail
       go_ret2
       exact ⟨.inl ⟨zs, 0, _, Hz.out, rfl, HF2.out⟩, (hx0.trans (Ext.refl _)).trans hx12⟩
      ·have Hz : Hid (domO names lo hi (bytes s) = none) := by
        show _ = _
        rw [Hr.out, hz]; rfl
       clear hz Hr
       go_wp2_with fail
       go_ret2
       exact ⟨.inr ⟨Hz.out, t, p, rfl⟩, (hx0.trans (Ext.refl _)).trans hx12⟩
     ·have hsz := weekdayB_size hwd
      have hF : domO names lo hi (bytes s) = match atoiO (bytes s).dropLast with
       | none => none
       | some n => if within lo hi n then some ([n], (2 : Int)) else none := by rw [HF.out, hwd]; rfl
      have HG := Lib.hid hF
      have hne : ¬ bytes (mk (bytes s).dropLast) = [] := by
       rw [bytes_mk]
       intro h
       have := congrArg List.length h
       simp [bytes_length] at this
       omega
      have e2 := str_no hne
      have hsz2 : (mk (bytes s).dropLast).size ≤ 2000 := by rw [size_mk, List.length_dropLast, bytes_length]; omega
      clear hF hwd HF hne
      go_wp2_with fail
      go_at_call 130
      refine (without_last s _ (by omega) (by omega)).mono ?_
      rintro e w1 ⟨rfl, rfl⟩
      go_wp2_with fail
      go_at_call 128
      refine (atoi_any _ _ (by omega) hE0).mono ?_
      rintro e w1 ⟨⟨n, hn, rfl⟩ | ⟨hn, m, t, p, rfl⟩, hx1⟩
      ·rw [bytes_mk] at hn
       have hF : domO names lo hi (bytes s) = if within lo hi n then some ([n], (2 : Int)) else none := by rw [HG.out, hn]
       have HF := Lib.hid hF
       have hlo1 := hx1.cell hlo0
       have hhi1 := hx1.cell hhi0
       clear hF HG hn hlo0 hhi0
       go_wp2_with fail
       go_at_call 124
       refine (in_scope' n lo hi _).mono ?_
       rintro e w9 ⟨rfl, rfl⟩
       rcases hwx : within lo hi n
       ·have Hr2 : Hid (domO names lo hi (bytes s) = none) := by
         show _ = _
         rw [HF.out, hwx]; rfl
        clear hwx
        go_wp2_with fail
        go_at_call 125
        refine (new_invalid s _ _ (hE0.ext hx1) (by omega) (by decide)).mono ?_
        rintro e w5 ⟨t, p, rfl, hx5⟩
        go_wp2_with fail
        go_ret2
        exact ⟨.inr ⟨Hr2.out, t, p, rfl⟩, (hx0.trans hx1).trans hx5⟩
       ·have Hr2 : Hid (domO names lo hi (bytes s) = some ([n], (2 : Int))) := by
         show _ = _
         rw [HF.out, hwx]; rfl
        clear hwx HF hlo1 hhi1
        have F1 := Lib.hid ((Field.one w1 (n) (2)).mono (hx0.trans hx1).size)
        go_wp2_with fail
        go_at_call 127
        refine (new_fieldN _ _ _ _ _).mono ?_
        rintro e w20 ⟨rfl, rfl⟩
        go_wp2_with fail
        go_ret2
        exact ⟨.inl ⟨_, _, _, Hr2.out, rfl, by simpa using F1.out⟩, ((hx0.trans hx1).trans (Ext.alloc _ _)).trans (Ext.alloc _ _)⟩
      ·rw [bytes_mk] at hn
       have Hr2 : Hid (domO names lo hi (bytes s) = none) := by
        show _ = _
        rw [HG.out, hn]
       clear hn HG hlo0 hhi0
       go_wp2_with fail
       go_at_call 125
       refine (new_invalid s _ _ (hE0.ext hx1) (by omega) (by decide)).mono ?_
       rintro e w5 ⟨t, p, rfl, hx5⟩
       go_wp2_with fail
       go_ret2
       exact ⟨.inr ⟨Hr2.out, t, p, rfl⟩, (hx0.trans hx1).trans hx5⟩
  ·have hF : domO names lo hi (bytes s) = if bytes s = [76] then some (([] : List Int), (1 : Int))
    else match splitL (bytes s) 45 with
     | [_, b] => match atoiO b with
       | none => none
       | some n => if within lo hi n then some (([] : List Int), -n) else none
     | _ => none := by unfold domO; rw [h76, hld]; rfl
   have HF := Lib.hid hF
   clear hF h76 hld
   by_cases hl1 : bytes s = [76]
   ·have Hr2 : Hid (domO names lo hi (bytes s) = some (([] : List Int), (1 : Int))) := by
     show _ = _
     rw [HF.out, if_pos hl1]
    have e1 := str_yes hl1
    clear HF hl1 hlo0 hhi0
    have F1 := Lib.hid ((Field.nil w0 (1)).mono (hx0).size)
    go_wp2_with fail
    go_at_call 127
    refine (new_fieldN _ _ _ _ _).mono ?_
    rintro e w20 ⟨rfl, rfl⟩
    go_wp2_with fail
    go_ret2
    exact ⟨.inl ⟨_, _, _, Hr2.out, rfl, by simpa using F1.out⟩, ((hx0).trans (Ext.alloc _ _)).trans (Ext.alloc _ _)⟩
   ·have hF : domO names lo hi (bytes s) = match splitL (bytes s) 45 with
     | [_, b] => match atoiO b with
       | none => none
       | some n => if within lo hi n then some (([] : List Int), -n) else none
     | _ => none := by rw [HF.out, if_neg hl1]
    have HG := Lib.hid hF
    have e1 := str_no hl1
    clear hF hl1 HF
    go_wp2_with fail
    go_at_call 76
    refine (zz_split s 45 _ (by omega)).mono ?_
    rintro e w1 ⟨v, rfl, hst, hx1⟩
    have hlo1 := hx1.cell hlo0
    have hhi1 := hx1.cell hhi0
    have hE1 := hE0.ext hx1
    obtain ⟨g, cap, rfl, hb, hg, hcell⟩ := hst.form (splitL_pos _ _)
    have hitem := splitL_item (bytes s) 45
    rw [bytes_length] at hitem
    clear hlo0 hhi0
    rcases hl : splitL (bytes s) 45 with _ | ⟨a, _ | ⟨b, _ | ⟨c, rest⟩⟩⟩
    ·exact absurd hl (splitGo_ne _ _ _)
    ·rw [hl] at HG
     have Hr2 := HG
     clear HG hl hcell hitem hst
     go_wp2_with fail
     go_at_call 125
     refine (new_invalid s _ _ hE1 (by omega) (by decide)).mono ?_
     rintro e w5 ⟨t, p, rfl, hx5⟩
     go_wp2_with fail
     go_ret2
     exact ⟨.inr ⟨Hr2.out, t, p, rfl⟩, (hx0.trans hx1).trans hx5⟩
    ·rw [hl] at hcell HG
     have c1 := hcell 1 b rfl
     have hbl := hitem b (by rw [hl]; simp)
     clear hl hcell hitem hst
     go_wp2_with fail
     go_at_call 128
     refine (atoi_any (mk b) _ (by rw [size_mk]; omega) hE1).mono ?_
     rintro e w2 ⟨⟨n, hn, rfl⟩ | ⟨hn, m, t, p, rfl⟩, hx2⟩
     ·have hn' : atoiO b = some n := hn
      have hF : domO names lo hi (bytes s) = if within lo hi n then some (([] : List Int), -n) else none := by rw [HG.out]; simp only [hn']
      have HF := Lib.hid hF
      have hlo2 := hx2.cell hlo1
      have hhi2 := hx2.cell hhi1
      clear hF HG hn hn' hlo1 hhi1 c1
      go_wp2_with fail
      go_at_call 124
      refine (in_scope' n lo hi _).mono ?_
      rintro e w9 ⟨rfl, rfl⟩
      rcases hwx : within lo hi n
      ·have Hr2 : Hid (domO names lo hi (bytes s) = none) := by
        show _ = _
        rw [HF.out, hwx]; rfl
       clear hwx
       go_wp2_with fail
       go_at_call 125
       refine (new_invalid s _ _ (hE1.ext hx2) (by omega) (by decide)).mono ?_
       rintro e w5 ⟨t, p, rfl, hx5⟩
       go_wp2_with fail
       go_ret2
       exact ⟨.inr ⟨Hr2.out, t, p, rfl⟩, ((hx0.trans hx1).trans hx2).trans hx5⟩
      ·have Hr2 : Hid (domO names lo hi (bytes s) = some (([] : List Int), -n)) := by
        show _ = _
        rw [HF.out, hwx]; rfl
       have hwl := within_le hwx
       clear hwx HF hlo2 hhi2
       have F1 := Lib.hid ((Field.nil w2 (-n)).mono ((hx0.trans hx1).trans hx2).size)
       go_wp2_with fail
       go_at_call 127
       refine (new_fieldN _ _ _ _ _).mono ?_
       rintro e w20 ⟨rfl, rfl⟩
       go_wp2_with fail
       go_ret2
       exact ⟨.inl ⟨_, _, _, Hr2.out, rfl, by simpa using F1.out⟩, (((hx0.trans hx1).trans hx2).trans (Ext.alloc _ _)).trans (Ext.alloc _ _)⟩
     ·have hn' : atoiO b = none := hn
      have Hr2 : Hid (domO names lo hi (bytes s) = none) := by
       show _ = _
       rw [HG.out]; simp only [hn']
      clear hn hn' HG hlo1 hhi1 c1
      go_wp2_with fail
      go_at_call 125
      refine (new_invalid s _ _ (hE1.ext hx2) (by omega) (by decide)).mono ?_
      rintro e w5 ⟨t, p, rfl, hx5⟩
      go_wp2_with fail
      go_ret2
      exact ⟨.inr ⟨Hr2.out, t, p, rfl⟩, ((hx0.trans hx1).trans hx2).trans hx5⟩
    ·rw [hl] at HG
     have Hr2 := HG
     have hlen := splitL_len (bytes s) 45
     rw [hl, bytes_length] at hlen
     simp at hlen
     clear HG hl hcell hitem hst
     go_wp2_with fail
     go_at_call 125
     refine (new_invalid s _ _ hE1 (by omega) (by decide)).mono ?_
     rintro e w5 ⟨t, p, rfl, hx5⟩
     go_wp2_with fail
     go_ret2
     exact ⟨.inr ⟨Hr2.out, t, p, rfl⟩, (hx0.trans hx1).trans hx5⟩
set_option maxHeartbeats 3200000 in
set_option maxRecDepth 1000000 in
theorem parse_dow (s : ByteArray) (lo hi : Int) (vn : Value) (names : List (List UInt8)) (w : World) (hs : s.size ≤ 2000) (hlo : 0 ≤ lo) (hhi : hi ≤ 4000) (hvn : Strs w 0 vn names) (hnn : names.length ≤ 13) (hE : Env w) :
 Calls Tryz.prog 93 #[.string s, .agg #[.int .i64 lo, .int .i64 hi], vn] w fun e w' => ((∃ zs n v, dowO names lo hi (bytes s) = some (zs, n) ∧ e = .returned (.tuple #[v, .nilIface]) ∧ Field w' w.heap.size v zs n) ∨
  (dowO names lo hi (bytes s) = none ∧ ∃ t p, e = .returned (.tuple #[.pointer none, .iface t p]))) ∧ Ext w w' := by
 obtain ⟨an, capn, rfl⟩ := own_any hvn
 have hx0 := Ext.alloc w (.cells #[.int .i64 lo, .int .i64 hi] 130)
 have hlo0 : (w.alloc (.cells #[.int .i64 lo, .int .i64 hi] 130)).cell? ⟨w.heap.size, 0, none⟩ = some (.int .i64 lo) := by simp
 have hhi0 : (w.alloc (.cells #[.int .i64 lo, .int .i64 hi] 130)).cell? ⟨w.heap.size, 1, none⟩ = some (.int .i64 hi) := by simp
 have hE0 := hE.ext hx0
 have hvn0 := hvn.ext hx0
 have Hvn := Lib.hid hvn0
 clear hvn hvn0
 go_enter Tryz.func93, Tryz.ntmps93
 go_wp2_with fail
 obtain ⟨w0, hw0⟩ : ∃ w0, w0 = w.alloc (.cells #[.int .i64 lo, .int .i64 hi] 130) := ⟨_, rfl⟩
 rw [← hw0] at hx0 hlo0 hhi0 hE0 Hvn ⊢
 clear hw0
 go_at_call 119
 refine (zz_has s 76 _ (by omega)).mono ?_
 rintro e w1 ⟨rfl, rfl⟩
 rcases h76 : (bytes s).contains 76
 ·have hcond : ((bytes s).contains 76 && lastWeekdayB (bytes s)) = false := by rw [h76]; rfl
  clear h76
  have hF : dowO names lo hi (bytes s) = if (bytes s).contains 35 && hashB (bytes s) then match splitL (bytes s) 35 with
   | [a, b] => match normalizeO names a with
     | none => none
     | some d => if within lo hi d then match atoiO b with
        | none => none
        | some n => if within 1 5 n then some ([d], n) else none
       else none
   | _ => none
   else (fieldO names lo hi (bytes s)).map fun z => (z, (0 : Int)) := by unfold dowO; rw [if_neg (by rw [hcond]; decide)]
  have HF := Lib.hid hF
  clear hF hcond
  go_wp2_with fail
  go_at_call 119
  refine (zz_has s 35 _ (by omega)).mono ?_
  rintro e w1 ⟨rfl, rfl⟩
  rcases h35 : (bytes s).contains 35
  ·skip
   have Hr : Hid (dowO names lo hi (bytes s) = (fieldO names lo hi (bytes s)).map fun z => (z, (0 : Int))) := by
    show _ = _
    rw [HF.out, h35]; rfl
   clear HF h35
   go_wp2_with fail
   go_at_call 90
   refine (parse_field s lo hi _ names _ hs hlo hhi (Hvn.out.ext (Ext.refl _)) hnn (hE0.ext (Ext.refl _))).mono ?_
   rintro e w12 ⟨⟨zs, v, hz, rfl, hF⟩ | ⟨hz, t, p, rfl⟩, hx12⟩
   ·have HF2 := Lib.hid (hF.mono (hx0.trans (Ext.refl _)).size)
    have Hz : Hid (dowO names lo hi (bytes s) = some (zs, 0)) := by
     show _ = _
     rw [Hr.out, hz]; rfl
    clear hF hz Hr
    go_wp2_with fail
    go_ret2
    exact ⟨.inl ⟨zs, 0, _, Hz.out, rfl, HF2.out⟩, (hx0.trans (Ext.refl _)).trans hx12⟩
   ·have Hz : Hid (dowO names lo hi (bytes s) = none) := by
     show _ = _
     rw [Hr.out, hz]; rfl
    clear hz Hr
    go_wp2_with fail
    go_ret2
    exact ⟨.inr ⟨Hz.out, t, p, rfl⟩, (hx0.trans (Ext.refl _)).trans hx12⟩
  ·go_wp2_with fail
   go_at_call 132
   refine (is_hash s _ (by omega)).mono ?_
   rintro e w1 ⟨rfl, hx1⟩
   have hlo1 := hx1.cell hlo0
   have hhi1 := hx1.cell hhi0
   have hE1 := hE0.ext hx1
   clear hlo0 hhi0
   rcases hh : hashB (bytes s)
   ·skip
    have Hr : Hid (dowO names lo hi (bytes s) = (fieldO names lo hi (bytes s)).map fun z => (z, (0 : Int))) := by
     show _ = _
     rw [HF.out, h35, hh]; rfl
    clear HF h35 hh
    go_wp2_with fail
    go_at_call 90
    refine (parse_field s lo hi _ names _ hs hlo hhi (Hvn.out.ext (hx1)) hnn (hE0.ext (hx1))).mono ?_
    rintro e w12 ⟨⟨zs, v, hz, rfl, hF⟩ | ⟨hz, t, p, rfl⟩, hx12⟩
    ·have HF2 := Lib.hid (hF.mono (hx0.trans (hx1)).size)
     have Hz : Hid (dowO names lo hi (bytes s) = some (zs, 0)) := by
      show _ = _
      rw [Hr.out, hz]; rfl
     clear hF hz Hr
     go_wp2_with fail
     go_ret2
     exact ⟨.inl ⟨zs, 0, _, Hz.out, rfl, HF2.out⟩, (hx0.trans (hx1)).trans hx12⟩
    ·have Hz : Hid (dowO names lo hi (bytes s) = none) := by
      show _ = _
      rw [Hr.out, hz]; rfl
     clear hz Hr
     go_wp2_with fail
     go_ret2
     exact ⟨.inr ⟨Hz.out, t, p, rfl⟩, (hx0.trans (hx1)).trans hx12⟩
   ·have hF : dowO names lo hi (bytes s) = match splitL (bytes s) 35 with
     | [a, b] => match normalizeO names a with
       | none => none
       | some d => if within lo hi d then match atoiO b with
          | none => none
          | some n => if within 1 5 n then some ([d], n) else none
         else none
     | _ => none := by rw [HF.out, h35, hh]; rfl
    have HG := Lib.hid hF
    clear hF h35 hh HF
    go_wp2_with fail
    go_at_call 76
    refine (zz_split s 35 _ (by omega)).mono ?_
    rintro e w2 ⟨v, rfl, hst, hx2⟩
    have hlo2 := hx2.cell hlo1
    have hhi2 := hx2.cell hhi1
    have hE2 := hE1.ext hx2
    obtain ⟨g, cap, rfl, hb, hg, hcell⟩ := hst.form (splitL_pos _ _)
    have hitem := splitL_item (bytes s) 35
    rw [bytes_length] at hitem
    have hx02 := (hx0.trans hx1).trans hx2
    clear hlo1 hhi1
    rcases hl : splitL (bytes s) 35 with _ | ⟨a, _ | ⟨b, _ | ⟨c, rest⟩⟩⟩
    ·exact absurd hl (splitGo_ne _ _ _)
    ·rw [hl] at HG
     have Hr2 := HG
     clear HG hl hcell hitem hst
     go_wp2_with fail
     go_at_call 125
     refine (new_invalid s _ _ hE2 (by omega) (by decide)).mono ?_
     rintro e w5 ⟨t, p, rfl, hx5⟩
     go_wp2_with fail
     go_ret2
     exact ⟨.inr ⟨Hr2.out, t, p, rfl⟩, hx02.trans hx5⟩
    ·rw [hl] at hcell HG
     have c0 := hcell 0 a rfl
     have c1 := hcell 1 b rfl
     have hal := hitem a (by rw [hl]; simp)
     have hbl := hitem b (by rw [hl]; simp)
     clear hl hcell hitem hst
     go_wp2_with fail
     go_at_call 123
     refine (normalize_any _ names (mk a) _ (by rw [size_mk]; omega) hnn hE2 ((Hvn.out.ext hx1).ext hx2)).mono ?_
     rintro e w3 ⟨⟨d, hn, rfl⟩ | ⟨hn, m, t, p, rfl⟩, hx3⟩
     ·have hn' : normalizeO names a = some d := hn
      have hF : dowO names lo hi (bytes s) = if within lo hi d then match atoiO b with
       | none => none
       | some n => if within 1 5 n then some ([d], n) else none
       else none := by rw [HG.out]; simp only [hn']
      have HF := Lib.hid hF
      have hlo3 := hx3.cell hlo2
      have hhi3 := hx3.cell hhi2
      have c13 := hx3.cell c1
      have hE3 := hE2.ext hx3
      have hx03 := hx02.trans hx3
      clear hF HG hn hn' hlo2 hhi2 c1 c0
      go_wp2_with fail
      go_at_call 124
      refine (in_scope' d lo hi _).mono ?_
      rintro e w9 ⟨rfl, rfl⟩
      rcases hwx : within lo hi d
      ·have Hr2 : Hid (dowO names lo hi (bytes s) = none) := by
        show _ = _
        rw [HF.out, hwx]; rfl
       clear hwx
       go_wp2_with fail
       go_at_call 125
       refine (new_invalid s _ _ hE3 (by omega) (by decide)).mono ?_
       rintro e w5 ⟨t, p, rfl, hx5⟩
       go_wp2_with fail
       go_ret2
       exact ⟨.inr ⟨Hr2.out, t, p, rfl⟩, hx03.trans hx5⟩
      ·have hG : dowO names lo hi (bytes s) = match atoiO b with
        | none => none
        | some n => if within 1 5 n then some ([d], n) else none := by rw [HF.out, hwx]; rfl
       have HG := Lib.hid hG
       clear hG HF hwx
       go_wp2_with fail
       go_at_call 128
       refine (atoi_any (mk b) _ (by rw [size_mk]; omega) hE3).mono ?_
       rintro e w4 ⟨⟨n, hn, rfl⟩ | ⟨hn, m, t, p, rfl⟩, hx4⟩
       ·have hn' : atoiO b = some n := hn
        have hF : dowO names lo hi (bytes s) = if within 1 5 n then some ([d], n) else none := by rw [HG.out]; simp only [hn']
        have HF := Lib.hid hF
        clear hF HG hn hn' hlo3 hhi3 c13
        go_wp2_with fail
        go_at_call 124
        refine (in_scope' n 1 5 _).mono ?_
        rintro e w9 ⟨rfl, rfl⟩
        rcases hwx : within 1 5 n
        ·have Hr2 : Hid (dowO names lo hi (bytes s) = none) := by
          show _ = _
          rw [HF.out, hwx]; rfl
         clear hwx
         go_wp2_with fail
         go_at_call 125
         refine (new_invalid s _ _ (hE3.ext hx4) (by omega) (by decide)).mono ?_
         rintro e w5 ⟨t, p, rfl, hx5⟩
         go_wp2_with fail
         go_ret2
         exact ⟨.inr ⟨Hr2.out, t, p, rfl⟩, (hx03.trans hx4).trans hx5⟩
        ·have Hr2 : Hid (dowO names lo hi (bytes s) = some ([d], n)) := by
          show _ = _
          rw [HF.out, hwx]; rfl
         clear hwx HF
         have F1 := Lib.hid ((Field.one w4 (d) (n)).mono (hx03.trans hx4).size)
         go_wp2_with fail
         go_at_call 127
         refine (new_fieldN _ _ _ _ _).mono ?_
         rintro e w20 ⟨rfl, rfl⟩
         go_wp2_with fail
         go_ret2
         exact ⟨.inl ⟨_, _, _, Hr2.out, rfl, by simpa using F1.out⟩, ((hx03.trans hx4).trans (Ext.alloc _ _)).trans (Ext.alloc _ _)⟩
       ·have hn' : atoiO b = none := hn
        have Hr2 : Hid (dowO names lo hi (bytes s) = none) := by
         show _ = _
         rw [HG.out]; simp only [hn']
        clear hn hn' HG hlo3 hhi3 c13
        go_wp2_with fail
        go_at_call 125
        refine (new_invalid s _ _ (hE3.ext hx4) (by omega) (by decide)).mono ?_
        rintro e w5 ⟨t, p, rfl, hx5⟩
        go_wp2_with fail
        go_ret2
        exact ⟨.inr ⟨Hr2.out, t, p, rfl⟩, (hx03.trans hx4).trans hx5⟩
     ·have hn' : normalizeO names a = none := hn
      have Hr2 : Hid (dowO names lo hi (bytes s) = none) := by
       show _ = _
       rw [HG.out]; simp only [hn']
      clear hn hn' HG hlo2 hhi2 c1 c0
      go_wp2_with fail
      go_at_call 125
      refine (new_invalid s _ _ (hE2.ext hx3) (by omega) (by decide)).mono ?_
      rintro e w5 ⟨t, p, rfl, hx5⟩
      go_wp2_with fail
      go_ret2
      exact ⟨.inr ⟨Hr2.out, t, p, rfl⟩, (hx02.trans hx3).trans hx5⟩
    ·rw [hl] at HG
     have Hr2 := HG
     have hlen := splitL_len (bytes s) 35
     rw [hl, bytes_length] at hlen
     simp at hlen
     clear HG hl hcell hitem hst
     go_wp2_with fail
     go_at_call 125
     refine (new_invalid s _ _ hE2 (by omega) (by decide)).mono ?_
     rintro e w5 ⟨t, p, rfl, hx5⟩
     go_wp2_with fail
     go_ret2
     exact ⟨.inr ⟨Hr2.out, t, p, rfl⟩, hx02.trans hx5⟩
 ·go_wp2_with fail
  go_at_call 131
  refine (is_last_weekday s _ (by omega)).mono ?_
  rintro e w1 ⟨rfl, rfl⟩
  rcases hld : lastWeekdayB (bytes s)
  ·have hcond : ((bytes s).contains 76 && lastWeekdayB (bytes s)) = false := by rw [h76, hld]; rfl
   clear h76 hld
   have hF : dowO names lo hi (bytes s) = if (bytes s).contains 35 && hashB (bytes s) then match splitL (bytes s) 35 with
    | [a, b] => match normalizeO names a with
      | none => none
      | some d => if within lo hi d then match atoiO b with
         | none => none
         | some n => if within 1 5 n then some ([d], n) else none
        else none
    | _ => none
    else (fieldO names lo hi (bytes s)).map fun z => (z, (0 : Int)) := by unfold dowO; rw [if_neg (by rw [hcond]; decide)]
   have HF := Lib.hid hF
   clear hF hcond
   go_wp2_with fail
   go_at_call 119
   refine (zz_has s 35 _ (by omega)).mono ?_
   rintro e w1 ⟨rfl, rfl⟩
   rcases h35 : (bytes s).contains 35
   ·skip
    have Hr : Hid (dowO names lo hi (bytes s) = (fieldO names lo hi (bytes s)).map fun z => (z, (0 : Int))) := by
     show _ = _
     rw [HF.out, h35]; rfl
    clear HF h35
    go_wp2_with fail
    go_at_call 90
    refine (parse_field s lo hi _ names _ hs hlo hhi (Hvn.out.ext (Ext.refl _)) hnn (hE0.ext (Ext.refl _))).mono ?_
    rintro e w12 ⟨⟨zs, v, hz, rfl, hF⟩ | ⟨hz, t, p, rfl⟩, hx12⟩
    ·have HF2 := Lib.hid (hF.mono (hx0.trans (Ext.refl _)).size)
     have Hz : Hid (dowO names lo hi (bytes s) = some (zs, 0)) := by
      show _ = _
      rw [Hr.out, hz]; rfl
     clear hF hz Hr
     go_wp2_with fail
     go_ret2
     exact ⟨.inl ⟨zs, 0, _, Hz.out, rfl, HF2.out⟩, (hx0.trans (Ext.refl _)).trans hx12⟩
    ·have Hz : Hid (dowO names lo hi (bytes s) = none) := by
      show _ = _
      rw [Hr.out, hz]; rfl
     clear hz Hr
     go_wp2_with fail
     go_ret2
     exact ⟨.inr ⟨Hz.out, t, p, rfl⟩, (hx0.trans (Ext.refl _)).trans hx12⟩
   ·go_wp2_with fail
    go_at_call 132
    refine (is_hash s _ (by omega)).mono ?_
    rintro e w1 ⟨rfl, hx1⟩
    have hlo1 := hx1.cell hlo0
    have hhi1 := hx1.cell hhi0
    have hE1 := hE0.ext hx1
    clear hlo0 hhi0
    rcases hh : hashB (bytes s)
    ·skip
     have Hr : Hid (dowO names lo hi (bytes s) = (fieldO names lo hi (bytes s)).map fun z => (z, (0 : Int))) := by
      show _ = _
      rw [HF.out, h35, hh]; rfl
     clear HF h35 hh
     go_wp2_with fail
     go_at_call 90
     refine (parse_field s lo hi _ names _ hs hlo hhi (Hvn.out.ext (hx1)) hnn (hE0.ext (hx1))).mono ?_
     rintro e w12 ⟨⟨zs, v, hz, rfl, hF⟩ | ⟨hz, t, p, rfl⟩, hx12⟩
     ·have HF2 := Lib.hid (hF.mono (hx0.trans (hx1)).size)
      have Hz : Hid (dowO names lo hi (bytes s) = some (zs, 0)) := by
       show _ = _
       rw [Hr.out, hz]; rfl
      clear hF hz Hr
      go_wp2_with fail
      go_ret2
      exact ⟨.inl ⟨zs, 0, _, Hz.out, rfl, HF2.out⟩, (hx0.trans (hx1)).trans hx12⟩
     ·have Hz : Hid (dowO names lo hi (bytes s) = none) := by
       show _ = _
       rw [Hr.out, hz]; rfl
      clear hz Hr
      go_wp2_with fail
      go_ret2
      exact ⟨.inr ⟨Hz.out, t, p, rfl⟩, (hx0.trans (hx1)).trans hx12⟩
    ·have hF : dowO names lo hi (bytes s) = match splitL (bytes s) 35 with
      | [a, b] => match normalizeO names a with
        | none => none
        | some d => if within lo hi d then match atoiO b with
           | none => none
           | some n => if within 1 5 n then some ([d], n) else none
          else none
      | _ => none := by rw [HF.out, h35, hh]; rfl
     have HG := Lib.hid hF
     clear hF h35 hh HF
     go_wp2_with fail
     go_at_call 76
     refine (zz_split s 35 _ (by omega)).mono ?_
     rintro e w2 ⟨v, rfl, hst, hx2⟩
     have hlo2 := hx2.cell hlo1
     have hhi2 := hx2.cell hhi1
     have hE2 := hE1.ext hx2
     obtain ⟨g, cap, rfl, hb, hg, hcell⟩ := hst.form (splitL_pos _ _)
     have hitem := splitL_item (bytes s) 35
     rw [bytes_length] at hitem
     have hx02 := (hx0.trans hx1).trans hx2
     clear hlo1 hhi1
     rcases hl : splitL (bytes s) 35 with _ | ⟨a, _ | ⟨b, _ | ⟨c, rest⟩⟩⟩
     ·exact absurd hl (splitGo_ne _ _ _)
     ·rw [hl] at HG
      have Hr2 := HG
      clear HG hl hcell hitem hst
      go_wp2_with fail
      go_at_call 125
      refine (new_invalid s _ _ hE2 (by omega) (by decide)).mono ?_
      rintro e w5 ⟨t, p, rfl, hx5⟩
      go_wp2_with fail
      go_ret2
      exact ⟨.inr ⟨Hr2.out, t, p, rfl⟩, hx02.trans hx5⟩
     ·rw [hl] at hcell HG
      have c0 := hcell 0 a rfl
      have c1 := hcell 1 b rfl
      have hal := hitem a (by rw [hl]; simp)
      have hbl := hitem b (by rw [hl]; simp)
      clear hl hcell hitem hst
      go_wp2_with fail
      go_at_call 123
      refine (normalize_any _ names (mk a) _ (by rw [size_mk]; omega) hnn hE2 ((Hvn.out.ext hx1).ext hx2)).mono ?_
      rintro e w3 ⟨⟨d, hn, rfl⟩ | ⟨hn, m, t, p, rfl⟩, hx3⟩
      ·have hn' : normalizeO names a = some d := hn
       have hF : dowO names lo hi (bytes s) = if within lo hi d then match atoiO b with
        | none => none
        | some n => if within 1 5 n then some ([d], n) else none
        else none := by rw [HG.out]; simp only [hn']
       have HF := Lib.hid hF
       have hlo3 := hx3.cell hlo2
       have hhi3 := hx3.cell hhi2
       have c13 := hx3.cell c1
       have hE3 := hE2.ext hx3
       have hx03 := hx02.trans hx3
       clear hF HG hn hn' hlo2 hhi2 c1 c0
       go_wp2_with fail
       go_at_call 124
       refine (in_scope' d lo hi _).mono ?_
       rintro e w9 ⟨rfl, rfl⟩
       rcases hwx : within lo hi d
       ·have Hr2 : Hid (dowO names lo hi (bytes s) = none) := by
         show _ = _
         rw [HF.out, hwx]; rfl
        clear hwx
        go_wp2_with fail
        go_at_call 125
        refine (new_invalid s _ _ hE3 (by omega) (by decide)).mono ?_
        rintro e w5 ⟨t, p, rfl, hx5⟩
        go_wp2_with fail
        go_ret2
        exact ⟨.inr ⟨Hr2.out, t, p, rfl⟩, hx03.trans hx5⟩
       ·have hG : dowO names lo hi (bytes s) = match atoiO b with
         | none => none
         | some n => if within 1 5 n then some ([d], n) else none := by rw [HF.out, hwx]; rfl
        have HG := Lib.hid hG
        clear hG HF hwx
        go_wp2_with fail
        go_at_call 128
        refine (atoi_any (mk b) _ (by rw [size_mk]; omega) hE3).mono ?_
        rintro e w4 ⟨⟨n, hn, rfl⟩ | ⟨hn, m, t, p, rfl⟩, hx4⟩
        ·have hn' : atoiO b = some n := hn
         have hF : dowO names lo hi (bytes s) = if within 1 5 n then some ([d], n) else none := by rw [HG.out]; simp only [hn']
         have HF := Lib.hid hF
         clear hF HG hn hn' hlo3 hhi3 c13
         go_wp2_with fail
         go_at_call 124
         refine (in_scope' n 1 5 _).mono ?_
         rintro e w9 ⟨rfl, rfl⟩
         rcases hwx : within 1 5 n
         ·have Hr2 : Hid (dowO names lo hi (bytes s) = none) := by
           show _ = _
           rw [HF.out, hwx]; rfl
          clear hwx
          go_wp2_with fail
          go_at_call 125
          refine (new_invalid s _ _ (hE3.ext hx4) (by omega) (by decide)).mono ?_
          rintro e w5 ⟨t, p, rfl, hx5⟩
          go_wp2_with fail
          go_ret2
          exact ⟨.inr ⟨Hr2.out, t, p, rfl⟩, (hx03.trans hx4).trans hx5⟩
         ·have Hr2 : Hid (dowO names lo hi (bytes s) = some ([d], n)) := by
           show _ = _
           rw [HF.out, hwx]; rfl
          clear hwx HF
          have F1 := Lib.hid ((Field.one w4 (d) (n)).mono (hx03.trans hx4).size)
          go_wp2_with fail
          go_at_call 127
          refine (new_fieldN _ _ _ _ _).mono ?_
          rintro e w20 ⟨rfl, rfl⟩
          go_wp2_with fail
          go_ret2
          exact ⟨.inl ⟨_, _, _, Hr2.out, rfl, by simpa using F1.out⟩, ((hx03.trans hx4).trans (Ext.alloc _ _)).trans (Ext.alloc _ _)⟩
        ·have hn' : atoiO b = none := hn
         have Hr2 : Hid (dowO names lo hi (bytes s) = none) := by
          show _ = _
          rw [HG.out]; simp only [hn']
         clear hn hn' HG hlo3 hhi3 c13
         go_wp2_with fail
         go_at_call 125
         refine (new_invalid s _ _ (hE3.ext hx4) (by omega) (by decide)).mono ?_
         rintro e w5 ⟨t, p, rfl, hx5⟩
         go_wp2_with fail
         go_ret2
         exact ⟨.inr ⟨Hr2.out, t, p, rfl⟩, (hx03.trans hx4).trans hx5⟩
      ·have hn' : normalizeO names a = none := hn
       have Hr2 : Hid (dowO names lo hi (bytes s) = none) := by
        show _ = _
        rw [HG.out]; simp only [hn']
       clear hn hn' HG hlo2 hhi2 c1 c0
       go_wp2_with fail
       go_at_call 125
       refine (new_invalid s _ _ (hE2.ext hx3) (by omega) (by decide)).mono ?_
       rintro e w5 ⟨t, p, rfl, hx5⟩
       go_wp2_with fail
       go_ret2
       exact ⟨.inr ⟨Hr2.out, t, p, rfl⟩, (hx02.trans hx3).trans hx5⟩
     ·rw [hl] at HG
      have Hr2 := HG
      have hlen := splitL_len (bytes s) 35
      rw [hl, bytes_length] at hlen
      simp at hlen
      clear HG hl hcell hitem hst
      go_wp2_with fail
      go_at_call 125
      refine (new_invalid s _ _ hE2 (by omega) (by decide)).mono ?_
      rintro e w5 ⟨t, p, rfl, hx5⟩
      go_wp2_with fail
      go_ret2
      exact ⟨.inr ⟨Hr2.out, t, p, rfl⟩, hx02.trans hx5⟩
  ·have hsz := lastWeekdayB_size hld
   have hF : dowO names lo hi (bytes s) = if (bytes s).dropLast = [] then some ([(7 : Int)], (-1 : Int))
    else match normalizeO names (bytes s).dropLast with
     | none => none
     | some n => if within lo hi n then some ([n], (-1 : Int)) else none := by unfold dowO; rw [h76, hld]; rfl
   have HF := Lib.hid hF
   have hsz2 : (mk (bytes s).dropLast).size ≤ 2000 := by rw [size_mk, List.length_dropLast, bytes_length]; omega
   clear hF h76 hld
   go_wp2_with fail
   go_at_call 130
   refine (without_last s _ (by omega) hsz).mono ?_
   rintro e w1 ⟨rfl, rfl⟩
   by_cases hem : (bytes s).dropLast = []
   ·have Hr2 : Hid (dowO names lo hi (bytes s) = some ([(7 : Int)], (-1 : Int))) := by
     show _ = _
     rw [HF.out, if_pos hem]
    have e1 : ((mk (bytes s).dropLast).toList == []) = true := str_yes (s := mk (bytes s).dropLast) hem
    clear HF hem hlo0 hhi0
    have F1 := Lib.hid ((Field.one w0 (7) (-1)).mono (hx0).size)
    go_wp2_with fail
    go_at_call 127
    refine (new_fieldN _ _ _ _ _).mono ?_
    rintro e w20 ⟨rfl, rfl⟩
    go_wp2_with fail
    go_ret2
    exact ⟨.inl ⟨_, _, _, Hr2.out, rfl, by simpa using F1.out⟩, ((hx0).trans (Ext.alloc _ _)).trans (Ext.alloc _ _)⟩
   ·have hF : dowO names lo hi (bytes s) = match normalizeO names (bytes s).dropLast with
     | none => none
     | some n => if within lo hi n then some ([n], (-1 : Int)) else none := by rw [HF.out, if_neg hem]
    have HG := Lib.hid hF
    have e1 : ((mk (bytes s).dropLast).toList == []) = false := str_no (s := mk (bytes s).dropLast) hem
    clear HF hem hF
    go_wp2_with fail
    go_at_call 123
    refine (normalize_any _ names (mk (bytes s).dropLast) _ (by omega) hnn hE0 Hvn.out).mono ?_
    rintro e w1 ⟨⟨n, hn, rfl⟩ | ⟨hn, m, t, p, rfl⟩, hx1⟩
    ·rw [bytes_mk] at hn
     have hF : dowO names lo hi (bytes s) = if within lo hi n then some ([n], (-1 : Int)) else none := by rw [HG.out, hn]
     have HF := Lib.hid hF
     have hlo1 := hx1.cell hlo0
     have hhi1 := hx1.cell hhi0
     clear hF HG hn hlo0 hhi0
     go_wp2_with fail
     go_at_call 124
     refine (in_scope' n lo hi _).mono ?_
     rintro e w9 ⟨rfl, rfl⟩
     rcases hwx : within lo hi n
     ·have Hr2 : Hid (dowO names lo hi (bytes s) = none) := by
       show _ = _
       rw [HF.out, hwx]; rfl
      clear hwx
      go_wp2_with fail
      go_at_call 125
      refine (new_invalid s _ _ (hE0.ext hx1) (by omega) (by decide)).mono ?_
      rintro e w5 ⟨t, p, rfl, hx5⟩
      go_wp2_with fail
      go_ret2
      exact ⟨.inr ⟨Hr2.out, t, p, rfl⟩, (hx0.trans hx1).trans hx5⟩
     ·have Hr2 : Hid (dowO names lo hi (bytes s) = some ([n], (-1 : Int))) := by
       show _ = _
       rw [HF.out, hwx]; rfl
      clear hwx HF hlo1 hhi1
      have F1 := Lib.hid ((Field.one w1 (n) (-1)).mono (hx0.trans hx1).size)
      go_wp2_with fail
      go_at_call 127
      refine (new_fieldN _ _ _ _ _).mono ?_
      rintro e w20 ⟨rfl, rfl⟩
      go_wp2_with fail
      go_ret2
      exact ⟨.inl ⟨_, _, _, Hr2.out, rfl, by simpa using F1.out⟩, ((hx0.trans hx1).trans (Ext.alloc _ _)).trans (Ext.alloc _ _)⟩
    ·rw [bytes_mk] at hn
     have Hr2 : Hid (dowO names lo hi (bytes s) = none) := by
      show _ = _
      rw [HG.out, hn]
     clear hn HG hlo0 hhi0
     go_wp2_with fail
     go_at_call 125
     refine (new_invalid s _ _ (hE0.ext hx1) (by omega) (by decide)).mono ?_
     rintro e w5 ⟨t, p, rfl, hx5⟩
     go_wp2_with fail
     go_ret2
     exact ⟨.inr ⟨Hr2.out, t, p, rfl⟩, (hx0.trans hx1).trans hx5⟩
end Go.Proofs.YtmaffdhcmdhjfaaGreatDoor
namespace Go.Proofs.YtmaffdhcmdhjfaaGreatDoor
open Go.RowKit Go.Lib
def dec1 (z : Int) : Int := IntKind.i64.wrap (z + -1)
def addAt (zs : List Int) (k : Nat) : List Int := (zs.take k).map dec1 ++ zs.drop k
theorem addAt_len (zs : List Int) (k : Nat) : (addAt zs k).length = zs.length := by
 unfold addAt; simp; omega
theorem addAt_get (zs : List Int) (k : Nat) (x : Int) (h : zs[k]? = some x) : (addAt zs k)[k]? = some x ∧ (addAt zs k).set k (dec1 x) = addAt zs (k + 1) := by
 obtain ⟨hk, rfl⟩ := List.getElem?_eq_some_iff.mp h
 have hl : ((zs.take k).map dec1).length = k := by simp; omega
 unfold addAt
 rw [List.drop_eq_getElem_cons hk]
 constructor
 ·rw [List.getElem?_append_right (by omega), hl]; simp
 ·rw [List.set_append_right _ _ (by omega), hl, Nat.sub_self, List.set_cons_zero, List.take_succ_eq_append_getElem hk, List.map_append, List.append_assoc]; rfl
set_option maxHeartbeats 1600000 in
set_option maxRecDepth 1000000 in
theorem add_any (v : Value) (base : Nat) (zs : List Int) (n : Int) (w : World) (hF : Field w base v zs n) (hl : zs.length ≤ 100000000) :
 Calls Tryz.prog 95 #[v, .int .i64 (-1)] w fun e w' => e = .returned (.tuple #[]) ∧ Field w' base v (zs.map dec1) n ∧ Below base w w' := by
 obtain ⟨N, sl, rfl, hb, hN, hI⟩ := hF
 have hc : w.cell? ⟨N, 0, none⟩ = some sl := by simp [World.cell?, hN]
 rcases Nat.eq_zero_or_pos zs.length with h0 | hpos
 ·have hz : zs = [] := List.length_eq_zero_iff.mp h0
  subst hz
  obtain ⟨a, cap, rfl⟩ := own_any hI
  have HI := Lib.hid hI
  have HN := Lib.hid hN
  clear hI hN h0
  simp only [List.length_nil] at hc HI HN ⊢
  go_enter Tryz.func95, Tryz.ntmps95
  go_wp2_with fail
  refine wp_loop_rounds 1 ?_
  rw [rounds_succ]
  go_wp2
  go_end0; exact ⟨rfl, ⟨N, _, rfl, hb, HN.out, HI.out⟩, Below.refl _ _⟩
 ·obtain ⟨g, cap, rfl, hbg, hgl, hcell⟩ := hI.form hpos
  have hne : N ≠ g := by
   rintro rfl
   rcases hI.2 with ⟨h, _⟩ | ⟨g', cap', cur, h, _, hg', _⟩
   ·cases h
   ·injection h with h1; injection h1 with h1; injection h1 with h1
    subst h1
    rw [hN] at hg'
    injection hg' with hg'; injection hg' with _ hg'; cases hg'
  obtain ⟨m, hm⟩ : ∃ m, m = zs.length := ⟨_, rfl⟩
  have HI0 := Lib.hid hI
  have HN0 := Lib.hid hN
  have Hm := Lib.hid hm
  rw [← hm] at hc
  have hmb : m ≤ 100000000 := by omega
  have hmp : 0 < m := by omega
  clear hI hN hcell hm hpos
  go_enter Tryz.func95, Tryz.ntmps95
  go_wp2_with fail
  go_loopw [4, 10] (fun _ i wr => ∃ k : Nat, k ≤ m ∧ i = .int .i64 k ∧ Hid (Ints wr base (.slice (some ⟨g, 0, none⟩) zs.length cap) (addAt zs k)) ∧ Hid (wr.heap[N]? = some (.cells #[.slice (some ⟨g, 0, none⟩) zs.length cap, .int .i64 n] 92 (0, 0))) ∧ Below base w wr)
   (fun _ i _ => m - (RowKit.intOf i).toNat)
  case atStart => exact ⟨0, Nat.zero_le _, rfl, by show Ints _ _ _ _; unfold addAt; simpa using HI0.out, HN0.out, Below.refl _ _⟩
  case round =>
   obtain ⟨k, hk, rfl, HI, HN, hx⟩ := hrel
   by_cases hlt : k < m
   ·obtain ⟨x, hxx⟩ : ∃ x, zs[k]? = some x := ⟨_, List.getElem?_eq_getElem (by rw [← Hm.out]; exact hlt)⟩
    have hg := addAt_get zs k x hxx
    have hI := HI.out
    have hlen := addAt_len zs k
    unfold Ints at hI
    rw [hlen] at hI
    have hcr : wr.cell? ⟨N, 0, none⟩ = some (.slice (some ⟨g, 0, none⟩) m cap) := by simp [World.cell?, HN.out, Hm.out]
    have hck : wr.cell? ⟨g, k, none⟩ = some (.int .i64 x) := by
     rw [hI.cellAt k (by rw [← Hm.out]; omega), ints, List.getElem?_map, hg.1]; rfl
    have hfk := hI.frozenAt k
    have Hst := Lib.hid (hI.stored k (.int .i64 (dec1 x)))
    have hw : IntKind.i64.wrap (x + -1) = dec1 x := rfl
    have Hg := Lib.hid hg.2
    clear hI hg hlen hxx HI HI0 HN0
    go_wp2_with fail
    go_roundw
    case rel => exact ⟨k + 1, by omega, by go_num, by rw [← Hg.out]; show World.ownsRow _ _ _ _ _ _ _; rw [List.length_set, addAt_len]; simpa [ints, List.map_set] using Hst.out.1, by rw [Hst.out.2.block N (block_lt HN.out) (by intro h; injection h with h; exact hne h)]; exact HN.out, Below.setCell hx (p := ⟨g, k, none⟩) hbg _⟩
    case measure => simp [RowKit.intOf]; omega
   ·have hkn : addAt zs k = zs.map dec1 := by unfold addAt; rw [List.take_of_length_le (by rw [← Hm.out]; omega), List.drop_of_length_le (by rw [← Hm.out]; omega), List.append_nil]
    rw [hkn] at HI
    clear hkn
    go_wp2_with fail
    go_end0; exact ⟨rfl, ⟨N, _, rfl, hb, HN.out, HI.out⟩, hx⟩
end Go.Proofs.YtmaffdhcmdhjfaaGreatDoor
namespace Go.Proofs.YtmaffdhcmdhjfaaGreatDoor
open Go.RowKit Go.Lib
structure But (B : Nat) (w w' : World) : Prop where
 size : w.heap.size ≤ w'.heap.size
 block : ∀ k, k < w.heap.size → k ≠ B → w'.heap[k]? = w.heap[k]?
theorem But.refl (B : Nat) (w : World) : But B w w := ⟨Nat.le_refl _, fun _ _ _ => rfl⟩
theorem But.trans {B : Nat} {a b c : World} (h : But B a b) (k : But B b c) : But B a c :=
 ⟨Nat.le_trans h.size k.size, fun i hi hb => (k.block i (Nat.lt_of_lt_of_le hi h.size) hb).trans (h.block i hi hb)⟩
theorem But.ext {B : Nat} {a b : World} (h : Ext a b) : But B a b := ⟨Below.size h, fun i hi _ => Below.block h i hi⟩
theorem But.set (B : Nat) (w : World) (j : Nat) (v : Value) : But B w (w.setCell ⟨B, j, none⟩ v) :=
 ⟨by simp, fun i _ hb => heap_setCell_other w ⟨B, j, none⟩ i v hb⟩
theorem But.below {B b : Nat} {a w w' : World} (h : But B a w) (k : Below b w w') (hb : a.heap.size ≤ b) : But B a w' :=
 ⟨Nat.le_trans h.size k.size, fun i hi hB => (k.block i (Nat.lt_of_lt_of_le hi hb)).trans (h.block i hi hB)⟩
theorem Field.but {B : Nat} {w w' : World} {base : Nat} {v : Value} {zs : List Int} {n : Int} {cs : Array Value} {fr : Nat × Nat} (h : Field w base v zs n) (hB : w.heap[B]? = some (.cells cs 90 fr)) (k : But B w w') : Field w' base v zs n := by
 obtain ⟨N, sl, hv, hb, hN, hI⟩ := h
 refine ⟨N, sl, hv, hb, ?_, hI.1, ?_⟩
 ·rw [k.block N (block_lt hN) (by rintro rfl; rw [hN] at hB; injection hB with hB; injection hB with _ hB; cases hB)]; exact hN
 ·rcases hI.2 with hn | ⟨g, cap, cur, h1, h2, hg, rest⟩
  ·exact .inl hn
  ·refine .inr ⟨g, cap, cur, h1, h2, ?_, rest⟩
   rw [k.block g (block_lt hg) (by rintro rfl; rw [hg] at hB; injection hB with hB; injection hB with _ hB; cases hB)]; exact hg
def FL (w : World) (base : Nat) (ps : List Value) (fs : List (List Int × Int)) : Prop :=
 ps.length = fs.length ∧ (∀ (i : Nat) (p : Value) (f : List Int × Int), ps[i]? = some p → fs[i]? = some f → Field w base p f.1 f.2) ∧ ps.Nodup
theorem FL.nil (w : World) (base : Nat) : FL w base [] [] := ⟨rfl, fun i p f h => by simp at h, List.nodup_nil⟩
theorem FL.ext {w w' : World} {base : Nat} {ps : List Value} {fs : List (List Int × Int)} (h : FL w base ps fs) (x : Ext w w') : FL w' base ps fs :=
 ⟨h.1, fun i p f h1 h2 => (h.2.1 i p f h1 h2).ext x, h.2.2⟩
theorem FL.but {B : Nat} {w w' : World} {base : Nat} {ps : List Value} {fs : List (List Int × Int)} {cs : Array Value} {fr : Nat × Nat} (h : FL w base ps fs) (hB : w.heap[B]? = some (.cells cs 90 fr)) (x : But B w w') : FL w' base ps fs :=
 ⟨h.1, fun i p f h1 h2 => (h.2.1 i p f h1 h2).but hB x, h.2.2⟩
theorem FL.fresh {w w' : World} {base b : Nat} {ps : List Value} {fs : List (List Int × Int)} {p : Value} {zs : List Int} {n : Int} (h : FL w base ps fs) (k : Field w' b p zs n) (hb : w.heap.size ≤ b) : p ∉ ps := by
 intro hm
 obtain ⟨i, hi, he⟩ := List.getElem_of_mem hm
 obtain ⟨N, _, h1, _, h2, _⟩ := h.2.1 i p (fs[i]'(by rw [← h.1]; exact hi)) (by rw [List.getElem?_eq_getElem hi, he]) (List.getElem?_eq_getElem _)
 obtain ⟨M, _, k1, k2, _⟩ := k
 rw [h1] at k1
 injection k1 with k1; injection k1 with k1; injection k1 with k1
 have := block_lt h2
 omega
theorem FL.snoc {w : World} {base : Nat} {ps : List Value} {fs : List (List Int × Int)} {p : Value} {zs : List Int} {n : Int} (h : FL w base ps fs) (k : Field w base p zs n) (hn : p ∉ ps) : FL w base (ps ++ [p]) (fs ++ [(zs, n)]) := by
 refine ⟨by simp [h.1], fun i q f h1 h2 => ?_, List.nodup_append.mpr ⟨h.2.2, by simp, fun a ha b hb => by rintro rfl; simp only [List.mem_singleton] at hb; subst hb; exact hn ha⟩⟩
 rcases Nat.lt_trichotomy i ps.length with hi | hi | hi
 ·rw [List.getElem?_append_left hi] at h1
  rw [List.getElem?_append_left (by rw [← h.1]; exact hi)] at h2
  exact h.2.1 i q f h1 h2
 ·subst hi
  rw [List.getElem?_append_right (Nat.le_refl _)] at h1
  rw [List.getElem?_append_right (by rw [h.1]; exact Nat.le_refl _)] at h2
  simp [h.1] at h1 h2
  subst h1; subst h2; exact k
 ·rw [List.getElem?_eq_none (by simp; omega)] at h1; cases h1
def Fields (w : World) (base : Nat) (v : Value) (fs : List (List Int × Int)) : Prop :=
 ∃ B ps, v = .slice (some ⟨B, 0, none⟩) 7 7 ∧ base ≤ B ∧ w.heap[B]? = some (.cells ps.toArray 90 (0, 0)) ∧ ps.length = 7 ∧ FL w base ps fs
theorem Fields.ext {w w' : World} {base : Nat} {v : Value} {fs : List (List Int × Int)} (h : Fields w base v fs) (x : Ext w w') : Fields w' base v fs := by
 obtain ⟨B, ps, h1, h2, h3, h4, h5⟩ := h
 exact ⟨B, ps, h1, h2, by rw [Below.block x B (block_lt h3)]; exact h3, h4, h5.ext x⟩
theorem set_row {w : World} {B k : Nat} {cs : Array Value} {u : Value} (h : w.heap[B]? = some (.cells cs 90 (0, 0))) : (w.setCell ⟨B, k, none⟩ u).heap[B]? = some (.cells (cs.setIfInBounds k u) 90 (0, 0)) :=
 heap_setCell_same w B k cs 90 u h
theorem row_cell {w : World} {B k : Nat} {cs : Array Value} {u : Value} (h : w.heap[B]? = some (.cells cs 90 (0, 0))) (hk : cs[k]? = some u) : w.cell? ⟨B, k, none⟩ = some u := by
 simp [World.cell?, h, hk]
theorem row_frozen {w : World} {B k : Nat} {cs : Array Value} (h : w.heap[B]? = some (.cells cs 90 (0, 0))) : w.frozen? ⟨B, k, none⟩ = false :=
 frozen_of_row w B k cs 90 h
theorem catAll_len {f : List UInt8 → Option (List Int)} {c : Nat} (hf : ∀ x a, f x = some a → a.length ≤ c) : ∀ (l : List (List UInt8)) (zs : List Int), catAll f l = some zs → zs.length ≤ l.length * c
 | [], zs, h => by simp [catAll] at h; subst h; simp
 | x :: xs, zs, h => by
   unfold catAll at h
   cases hx : f x with
   | none => rw [hx] at h; cases h
   | some a =>
     rw [hx] at h
     simp only [Option.map_eq_some_iff] at h
     obtain ⟨y, hy, rfl⟩ := h
     have h1 := catAll_len hf xs y hy
     have h2 := hf x a hx
     rw [List.length_append, List.length_cons, Nat.add_mul, Nat.one_mul]
     omega
theorem listO_len {names : List (List UInt8)} {lo hi : Int} {l : List UInt8} {zs : List Int} (h : listO names lo hi l = some zs) (h0 : 0 ≤ lo) (h1 : hi ≤ 4000) (hl : l.length ≤ 1000) : zs.length ≤ 100000000 := by
 have hT := splitL_len l 44
 unfold listO at h
 split at h
 ·cases h
 ·rename_i a ha
  split at h
  ·cases h
  ·rename_i b hb
   split at h
   ·cases h
   ·rename_i c hc
    injection h with h
    subst h
    have l1 := normAll_len _ _ _ ha
    have l2 := catAll_len (c := 4001) (fun x a hx => (stepO_len hx h0 h1).2) _ _ hb
    have l3 := catAll_len (c := 4001) (fun x a hx => (rangeO_len hx h0 h1).2) _ _ hc
    have q1 := outC_le 47 (splitL l 44)
    have q2 := inC_le 47 (splitL l 44)
    have q3 := outC_le 45 (outC 47 (splitL l 44))
    have q4 := inC_le 45 (outC 47 (splitL l 44))
    simp only [sortL, List.length_mergeSort, List.length_append]
    omega
theorem fieldO_len {names : List (List UInt8)} {lo hi : Int} {l : List UInt8} {zs : List Int} (h : fieldO names lo hi l = some zs) (h0 : 0 ≤ lo) (h1 : hi ≤ 4000) (hl : l.length ≤ 1000) : zs.length ≤ 100000000 := by
 unfold fieldO at h
 split at h
 ·injection h with h; subst h; simp
 ·split at h
  ·exact listO_len h h0 h1 hl
  ·split at h
   ·have := (stepO_len h h0 h1).2; omega
   ·split at h
    ·have := (rangeO_len h h0 h1).2; omega
    ·split at h
     ·cases h
     ·obtain ⟨_, rfl⟩ := ite_some h; simp
theorem dowO_len {l : List UInt8} {zs : List Int} {n : Int} (h : dowO dayN 1 7 l = some (zs, n)) (hl : l.length ≤ 1000) : zs.length ≤ 100000000 := by
 unfold dowO at h
 split at h
 ·split at h
  ·injection h with h; injection h with h h2; subst h; simp
  ·split at h
   ·cases h
   ·split at h
    ·injection h with h; injection h with h h2; subst h; simp
    ·cases h
 ·split at h
  ·split at h
   ·split at h
    ·cases h
    ·split at h
     ·split at h
      ·cases h
      ·split at h
       ·injection h with h; injection h with h h2; subst h; simp
       ·cases h
     ·cases h
   ·cases h
  ·simp only [Option.map_eq_some_iff] at h
   obtain ⟨y, hy, he⟩ := h
   injection he with he; subst he
   exact fieldO_len hy (by decide) (by decide) hl
theorem parse_field' (s : ByteArray) (lo hi : Int) (vn : Value) (names : List (List UInt8)) (w : World) (hs : s.size ≤ 2000) (hlo : 0 ≤ lo) (hhi : hi ≤ 4000) (hvn : Strs w 0 vn names) (hnn : names.length ≤ 13) (hE : Env w) :
 Calls Tryz.prog 90 #[.string s, .agg #[.int .i64 lo, .int .i64 hi], vn] w fun e w' => ∃ P ev, e = .returned (.tuple #[.pointer P, ev]) ∧
  ((∃ zs, fieldO names lo hi (bytes s) = some zs ∧ ev = .nilIface ∧ Field w' w.heap.size (.pointer P) zs 0) ∨
  (fieldO names lo hi (bytes s) = none ∧ ∃ t p, P = none ∧ ev = .iface t p)) ∧ Ext w w' := by
 refine (parse_field s lo hi vn names w hs hlo hhi hvn hnn hE).mono ?_
 rintro e w' ⟨⟨zs, v, h1, rfl, h2⟩ | ⟨h1, t, p, rfl⟩, hx⟩
 ·obtain ⟨N, sl, rfl, h3⟩ := h2
  exact ⟨_, _, rfl, .inl ⟨zs, h1, rfl, N, sl, rfl, h3⟩, hx⟩
 ·exact ⟨_, _, rfl, .inr ⟨h1, t, p, rfl, rfl⟩, hx⟩
theorem parse_dow' (s : ByteArray) (lo hi : Int) (vn : Value) (names : List (List UInt8)) (w : World) (hs : s.size ≤ 2000) (hlo : 0 ≤ lo) (hhi : hi ≤ 4000) (hvn : Strs w 0 vn names) (hnn : names.length ≤ 13) (hE : Env w) :
 Calls Tryz.prog 93 #[.string s, .agg #[.int .i64 lo, .int .i64 hi], vn] w fun e w' => ∃ P ev, e = .returned (.tuple #[.pointer P, ev]) ∧
  ((∃ zs n, dowO names lo hi (bytes s) = some (zs, n) ∧ ev = .nilIface ∧ Field w' w.heap.size (.pointer P) zs n) ∨
  (dowO names lo hi (bytes s) = none ∧ ∃ t p, P = none ∧ ev = .iface t p)) ∧ Ext w w' := by
 refine (parse_dow s lo hi vn names w hs hlo hhi hvn hnn hE).mono ?_
 rintro e w' ⟨⟨zs, n, v, h1, rfl, h2⟩ | ⟨h1, t, p, rfl⟩, hx⟩
 ·obtain ⟨N, sl, rfl, h3⟩ := h2
  exact ⟨_, _, rfl, .inl ⟨zs, n, h1, rfl, N, sl, rfl, h3⟩, hx⟩
 ·exact ⟨_, _, rfl, .inr ⟨h1, t, p, rfl, rfl⟩, hx⟩
theorem cell_lt {w : World} {a : Addr} {v : Value} (h : w.cell? a = some v) : a.block < w.heap.size := by
 rcases Nat.lt_or_ge a.block w.heap.size with h' | h'
 ·exact h'
 ·simp [World.cell?, Array.getElem?_eq_none h'] at h
theorem Field.ptr {w : World} {base : Nat} {v : Value} {zs : List Int} {n : Int} (h : Field w base v zs n) : ∃ N, v = .pointer (some ⟨N, 0, none⟩) := by
 obtain ⟨N, _, hv, _⟩ := h
 exact ⟨N, hv⟩
def buildO : List (List UInt8) → Option (List (List Int × Int))
 | [a, b, c, d, e, f, g] =>
   match fieldO [] 0 59 a with
   | none => none
   | some A => match fieldO [] 0 59 b with
     | none => none
     | some B => match fieldO [] 0 23 c with
       | none => none
       | some C => match domO [] 1 31 d with
         | none => none
         | some (D, dn) => match fieldO monthN 1 12 e with
           | none => none
           | some E => match dowO dayN 1 7 f with
             | none => none
             | some (F, wn) => match fieldO [] 1970 3940 g with
               | none => none
               | some G => some [(A, 0), (B, 0), (C, 0), (D, dn), (E, 0), (F.map dec1, wn), (G, 0)]
 | _ => none
theorem Tryz.info90 : (Tryz.prog.info? 90).map (fun i => (i.zero, i.size, i.bytes)) = some (some (.pointer none), 1, 8) := by kernel_rfl
theorem row_made {w : World} {base B : Nat} (h : w.ownsRow base 90 1 (.slice (some ⟨B, 0, none⟩) 7 7) 7 (madeCells (Value.pointer none).cells (7 * 1)).toList) :
 w.heap[B]? = some (.cells #[.pointer none, .pointer none, .pointer none, .pointer none, .pointer none, .pointer none, .pointer none] 90 (0, 0)) := by
 rcases h.2 with ⟨h', _⟩ | ⟨g, cap, cur, h', _, hg, hn, _, hs, ht⟩
 ·cases h'
 ·injection h' with h1 h2 h3
  injection h1 with h1; injection h1 with h1
  subst h1; subst h3
  have e : cur.toList = (madeCells (Value.pointer none).cells (7 * 1)).toList := by rw [← ht, List.take_of_length_le (by simp [hs])]
  have e2 : cur = madeCells (Value.pointer none).cells (7 * 1) := Array.toList_inj.mp e
  rw [hg, e2]; rw [show madeCells (Value.pointer none).cells (7 * 1) = (Array.range 7).map (fun _ => Value.pointer none) by unfold madeCells; apply Array.map_congr_left; intro x _; simp [Value.cells, Nat.mod_one], show Array.range 7 = #[0, 1, 2, 3, 4, 5, 6] by decide]; simp
set_option maxHeartbeats 6400000 in
set_option maxRecDepth 1000000 in
theorem build_any (a b c d e f g : List UInt8) (gt cap : Nat) (w : World) (hl : a.length ≤ 1000 ∧ b.length ≤ 1000 ∧ c.length ≤ 1000 ∧ d.length ≤ 1000 ∧ e.length ≤ 1000 ∧ f.length ≤ 1000 ∧ g.length ≤ 1000) (hE : Env w)
 (h0 : w.cell? ⟨gt, 0, none⟩ = some (.string (mk a))) (h1 : w.cell? ⟨gt, 1, none⟩ = some (.string (mk b))) (h2 : w.cell? ⟨gt, 2, none⟩ = some (.string (mk c))) (h3 : w.cell? ⟨gt, 3, none⟩ = some (.string (mk d)))
 (h4 : w.cell? ⟨gt, 4, none⟩ = some (.string (mk e))) (h5 : w.cell? ⟨gt, 5, none⟩ = some (.string (mk f))) (h6 : w.cell? ⟨gt, 6, none⟩ = some (.string (mk g))) :
 Calls Tryz.prog 78 #[.slice (some ⟨gt, 0, none⟩) 7 cap] w fun en w' => ((∃ fs v, buildO [a, b, c, d, e, f, g] = some fs ∧ en = .returned (.tuple #[v, .nilIface]) ∧ Fields w' w.heap.size v fs) ∨
  (buildO [a, b, c, d, e, f, g] = none ∧ ∃ t p, en = .returned (.tuple #[.slice none 0 0, .iface t p]))) ∧ Ext w w' := by
 obtain ⟨i0, hi0, hz0, hz1, hz2⟩ := info_parts Tryz.info90
 obtain ⟨la, lb, lc, ld, le, lf, lg⟩ := hl
 have hgt : gt < w.heap.size := cell_lt h0
 have H0 := Lib.hid h0
 have H1 := Lib.hid h1
 have H2 := Lib.hid h2
 have H3 := Lib.hid h3
 have H4 := Lib.hid h4
 have H5 := Lib.hid h5
 have H6 := Lib.hid h6
 clear h0 h1 h2 h3 h4 h5 h6
 go_enter Tryz.func78, Tryz.ntmps78
 go_wp2_with (first
  | (at_make; refine wpList_make_full _ rfl _ _ 87 rfl w.heap.size 90 i0 (.pointer none) 1 Tryz.underlying87 hi0 hz0 hz1 .i64 .i64 (7 : Int) (7 : Int) 7 rfl rfl rfl rfl ?c1 ?c2 ?c3 ?_)
  | fail)
 case c1 => rw [hz2]; omega
 case c2 => unfold maxLen; omega
 case c3 => omega
 intro u0 hown hgr
 have hx0 : Ext w u0 := Below.grown (Below.refl _ _) hgr (Nat.le_refl _) (fun k h => by cases h)
 have hB0 := row_made hown
 have F0 : FL u0 w.heap.size [] [] := FL.nil _ _
 clear hown hgr
 have c0 := hx0.cell H0.out
 go_wp2_with fail
 go_at_call 90
 refine (parse_field (mk a) 0 59 _ [] _ (by rw [size_mk]; omega) (by omega) (by omega) (World.ownsRow_nil _ _ _ _) (by simp) (hE.ext hx0)).mono ?_
 rintro en v0 ⟨⟨z0, p0, hz, rfl, hF⟩ | ⟨hz, t, p, rfl⟩, hx⟩
 ·have hz' : fieldO [] 0 59 a = some z0 := hz
  have HO0 : Hid (buildO [a, b, c, d, e, f, g] = ((match fieldO [] 0 59 b with | none => none | some B => (match fieldO [] 0 23 c with | none => none | some C => (match domO [] 1 31 d with | none => none | some (D, dn) => (match fieldO monthN 1 12 e with | none => none | some E => (match dowO dayN 1 7 f with | none => none | some (F, wn) => (match fieldO [] 1970 3940 g with | none => none | some G => some [(z0, 0), (B, 0), (C, 0), (D, dn), (E, 0), ((F).map dec1, wn), (G, 0)])))))) : Option (List (List Int × Int)))) := by
   show _ = _
   unfold buildO; simp only [hz']
  obtain ⟨N0, rfl⟩ := hF.ptr
  have hBv := (Below.block hx w.heap.size (block_lt hB0)).trans hB0
  have ckv := row_cell (k := 0) hBv rfl
  have fkv := row_frozen (k := 0) hBv
  have Fv := (F0.ext hx).snoc (hF.mono (Below.size hx0)) (F0.fresh hF (Nat.le_refl _))
  have c1 := (hx0.trans hx).cell H1.out
  obtain ⟨u1, hu1⟩ : ∃ x, x = v0.setCell ⟨w.heap.size, 0, none⟩ (.pointer (some ⟨N0, 0, none⟩)) := ⟨_, rfl⟩
  have hx1 : Ext w u1 := by rw [hu1]; exact (hx0.trans hx).set (Nat.le_refl _) _ _
  have hB1 := set_row (k := 0) (u := .pointer (some ⟨N0, 0, none⟩)) hBv
  have F1 := Fv.but hBv (But.set w.heap.size v0 0 (.pointer (some ⟨N0, 0, none⟩)))
  rw [← hu1] at hB1 F1
  simp only [List.setIfInBounds_toArray, List.set_cons_zero, List.set_cons_succ, List.nil_append, List.cons_append] at hB1 F1
  clear hz hz' hF hBv Fv F0 hB0 c0
  go_wp2_with fail
  rw [← hu1]
  clear hu1 c1 ckv fkv
  go_at_call 90
  refine (parse_field (mk b) 0 59 _ [] _ (by rw [size_mk]; omega) (by omega) (by omega) (World.ownsRow_nil _ _ _ _) (by simp) (hE.ext hx1)).mono ?_
  rintro en v1 ⟨⟨z1, p1, hz, rfl, hF⟩ | ⟨hz, t, p, rfl⟩, hx⟩
  ·have hz' : fieldO [] 0 59 b = some z1 := hz
   have HO1 : Hid (buildO [a, b, c, d, e, f, g] = ((match fieldO [] 0 23 c with | none => none | some C => (match domO [] 1 31 d with | none => none | some (D, dn) => (match fieldO monthN 1 12 e with | none => none | some E => (match dowO dayN 1 7 f with | none => none | some (F, wn) => (match fieldO [] 1970 3940 g with | none => none | some G => some [(z0, 0), (z1, 0), (C, 0), (D, dn), (E, 0), ((F).map dec1, wn), (G, 0)]))))) : Option (List (List Int × Int)))) := by
    show _ = _
    rw [HO0.out]; simp only [hz']
   obtain ⟨N1, rfl⟩ := hF.ptr
   have hBv := (Below.block hx w.heap.size (block_lt hB1)).trans hB1
   have ckv := row_cell (k := 1) hBv rfl
   have fkv := row_frozen (k := 1) hBv
   have Fv := (F1.ext hx).snoc (hF.mono (Below.size hx1)) (F1.fresh hF (Nat.le_refl _))
   have c2 := (hx1.trans hx).cell H2.out
   obtain ⟨u2, hu2⟩ : ∃ x, x = v1.setCell ⟨w.heap.size, 1, none⟩ (.pointer (some ⟨N1, 0, none⟩)) := ⟨_, rfl⟩
   have hx2 : Ext w u2 := by rw [hu2]; exact (hx1.trans hx).set (Nat.le_refl _) _ _
   have hB2 := set_row (k := 1) (u := .pointer (some ⟨N1, 0, none⟩)) hBv
   have F2 := Fv.but hBv (But.set w.heap.size v1 1 (.pointer (some ⟨N1, 0, none⟩)))
   rw [← hu2] at hB2 F2
   simp only [List.setIfInBounds_toArray, List.set_cons_zero, List.set_cons_succ, List.nil_append, List.cons_append] at hB2 F2
   clear hz hz' hF hBv Fv F1 hB1
   go_wp2_with fail
   rw [← hu2]
   clear hu2 c2 ckv fkv
   go_at_call 90
   refine (parse_field (mk c) 0 23 _ [] _ (by rw [size_mk]; omega) (by omega) (by omega) (World.ownsRow_nil _ _ _ _) (by simp) (hE.ext hx2)).mono ?_
   rintro en v2 ⟨⟨z2, p2, hz, rfl, hF⟩ | ⟨hz, t, p, rfl⟩, hx⟩
   ·have hz' : fieldO [] 0 23 c = some z2 := hz
    have HO2 : Hid (buildO [a, b, c, d, e, f, g] = ((match domO [] 1 31 d with | none => none | some (D, dn) => (match fieldO monthN 1 12 e with | none => none | some E => (match dowO dayN 1 7 f with | none => none | some (F, wn) => (match fieldO [] 1970 3940 g with | none => none | some G => some [(z0, 0), (z1, 0), (z2, 0), (D, dn), (E, 0), ((F).map dec1, wn), (G, 0)])))) : Option (List (List Int × Int)))) := by
     show _ = _
     rw [HO1.out]; simp only [hz']
    obtain ⟨N2, rfl⟩ := hF.ptr
    have hBv := (Below.block hx w.heap.size (block_lt hB2)).trans hB2
    have ckv := row_cell (k := 2) hBv rfl
    have fkv := row_frozen (k := 2) hBv
    have Fv := (F2.ext hx).snoc (hF.mono (Below.size hx2)) (F2.fresh hF (Nat.le_refl _))
    have c3 := (hx2.trans hx).cell H3.out
    obtain ⟨u3, hu3⟩ : ∃ x, x = v2.setCell ⟨w.heap.size, 2, none⟩ (.pointer (some ⟨N2, 0, none⟩)) := ⟨_, rfl⟩
    have hx3 : Ext w u3 := by rw [hu3]; exact (hx2.trans hx).set (Nat.le_refl _) _ _
    have hB3 := set_row (k := 2) (u := .pointer (some ⟨N2, 0, none⟩)) hBv
    have F3 := Fv.but hBv (But.set w.heap.size v2 2 (.pointer (some ⟨N2, 0, none⟩)))
    rw [← hu3] at hB3 F3
    simp only [List.setIfInBounds_toArray, List.set_cons_zero, List.set_cons_succ, List.nil_append, List.cons_append] at hB3 F3
    clear hz hz' hF hBv Fv F2 hB2
    go_wp2_with fail
    rw [← hu3]
    clear hu3 c3 ckv fkv
    go_at_call 91
    refine (parse_dom (mk d) 1 31 _ [] _ (by rw [size_mk]; omega) (by omega) (by omega) (World.ownsRow_nil _ _ _ _) (by simp) (hE.ext hx3)).mono ?_
    rintro en v3 ⟨⟨z3, n3, p3, hz, rfl, hF⟩ | ⟨hz, t, p, rfl⟩, hx⟩
    ·have hz' : domO [] 1 31 d = some (z3, n3) := hz
     have HO3 : Hid (buildO [a, b, c, d, e, f, g] = ((match fieldO monthN 1 12 e with | none => none | some E => (match dowO dayN 1 7 f with | none => none | some (F, wn) => (match fieldO [] 1970 3940 g with | none => none | some G => some [(z0, 0), (z1, 0), (z2, 0), (z3, n3), (E, 0), ((F).map dec1, wn), (G, 0)]))) : Option (List (List Int × Int)))) := by
      show _ = _
      rw [HO2.out]; simp only [hz']
     obtain ⟨N3, rfl⟩ := hF.ptr
     have hBv := (Below.block hx w.heap.size (block_lt hB3)).trans hB3
     have ckv := row_cell (k := 3) hBv rfl
     have fkv := row_frozen (k := 3) hBv
     have Fv := (F3.ext hx).snoc (hF.mono (Below.size hx3)) (F3.fresh hF (Nat.le_refl _))
     have c4 := (hx3.trans hx).cell H4.out
     obtain ⟨u4, hu4⟩ : ∃ x, x = v3.setCell ⟨w.heap.size, 3, none⟩ (.pointer (some ⟨N3, 0, none⟩)) := ⟨_, rfl⟩
     have hx4 : Ext w u4 := by rw [hu4]; exact (hx3.trans hx).set (Nat.le_refl _) _ _
     have hB4 := set_row (k := 3) (u := .pointer (some ⟨N3, 0, none⟩)) hBv
     have F4 := Fv.but hBv (But.set w.heap.size v3 3 (.pointer (some ⟨N3, 0, none⟩)))
     rw [← hu4] at hB4 F4
     simp only [List.setIfInBounds_toArray, List.set_cons_zero, List.set_cons_succ, List.nil_append, List.cons_append] at hB4 F4
     clear hz hz' hF hBv Fv F3 hB3
     go_wp2_with fail
     rw [← hu4]
     clear hu4 ckv fkv
     have hd4 := hx4.trans (Ext.drew u4)
     have cd4 := hd4.cell H4.out
     have hBd : u4.drew.heap[w.heap.size]? = _ := hB4
     have Hd4 := Lib.hid hd4
     have HBd := Lib.hid hBd
     have HF4 := Lib.hid F4
     clear hd4 hBd c4 hB4 F4
     go_region_with (first
      | (go_at_call 92
         refine (months_any _).mono ?_
         rintro en m ⟨mv, rfl, hms, hxm⟩
         obtain ⟨ma, mc, rfl⟩ := own_any hms
         have cm4 := hxm.cell cd4
         have Hm := Lib.hid hxm
         have Hms := Lib.hid hms.zero
         clear hms hxm)
      | (go_at_call 90
         refine (parse_field' (mk e) 1 12 _ monthN _ (by rw [size_mk]; omega) (by omega) (by omega) Hms.out (by decide) (hE.ext (Hd4.out.trans Hm.out))).mono ?_
         rintro en v4 ⟨P, ev, rfl, hor, hx⟩
         have hBv := (Below.block (Hm.out.trans hx) w.heap.size (block_lt HBd.out)).trans HBd.out
         have ckv := row_cell (k := 4) hBv rfl
         have fkv := row_frozen (k := 4) hBv
         have Hor := Lib.hid hor
         have Hx := Lib.hid hx
         have HBv := Lib.hid hBv
         clear hor hx hBv))
     all_goals
      rcases Hor.out with ⟨z4, hz, rfl, hF⟩ | ⟨hz, t, p, rfl, rfl⟩
      ·have hz' : fieldO monthN 1 12 e = some z4 := hz
       have HO4 : Hid (buildO [a, b, c, d, e, f, g] = ((match dowO dayN 1 7 f with | none => none | some (F, wn) => (match fieldO [] 1970 3940 g with | none => none | some G => some [(z0, 0), (z1, 0), (z2, 0), (z3, n3), (z4, 0), ((F).map dec1, wn), (G, 0)])) : Option (List (List Int × Int)))) := by
        show _ = _
        rw [HO3.out]; simp only [hz']
       obtain ⟨N4, hp⟩ := hF.ptr
       injection hp with hp
       subst hp
       have hxv := (Hd4.out.trans Hm.out).trans Hx.out
       have c5 := hxv.cell H5.out
       obtain ⟨u5, hu5⟩ : ∃ x, x = v4.setCell ⟨w.heap.size, 4, none⟩ (.pointer (some ⟨N4, 0, none⟩)) := ⟨_, rfl⟩
       have hx5 : Ext w u5 := by rw [hu5]; exact hxv.set (Nat.le_refl _) _ _
       have hB5 := set_row (k := 4) (u := .pointer (some ⟨N4, 0, none⟩)) HBv.out
       have Fv := (((HF4.out.ext (Ext.drew u4)).ext Hm.out).ext Hx.out).snoc (hF.mono (Below.size (Hd4.out.trans Hm.out))) (HF4.out.fresh hF (Below.size ((Ext.drew u4).trans Hm.out)))
       have F5 := Fv.but HBv.out (But.set w.heap.size v4 4 (.pointer (some ⟨N4, 0, none⟩)))
       rw [← hu5] at hB5 F5
       simp only [List.setIfInBounds_toArray, List.set_cons_zero, List.set_cons_succ, List.nil_append, List.cons_append] at hB5 F5
       clear hz hz' hF Fv HF4 hxv Hor Hx HBv Hm Hms cm4 cd4 Hd4 HBd
       go_wp2_with fail
       rw [← hu5]
       clear hu5 ckv fkv
       have hd5 := hx5.trans (Ext.drew u5)
       have cd5 := hd5.cell H5.out
       have hBd : u5.drew.heap[w.heap.size]? = _ := hB5
       have Hd5 := Lib.hid hd5
       have HBd := Lib.hid hBd
       have HF5 := Lib.hid F5
       clear hd5 hBd c5 hB5 F5
       go_region_with (first
        | (go_at_call 94
           refine (days_any _).mono ?_
           rintro en m ⟨mv, rfl, hms, hxm⟩
           obtain ⟨ma, mc, rfl⟩ := own_any hms
           have cm5 := hxm.cell cd5
           have Hm := Lib.hid hxm
           have Hms := Lib.hid hms.zero
           clear hms hxm)
        | (go_at_call 93
           refine (parse_dow' (mk f) 1 7 _ dayN _ (by rw [size_mk]; omega) (by omega) (by omega) Hms.out (by decide) (hE.ext (Hd5.out.trans Hm.out))).mono ?_
           rintro en v5 ⟨P, ev, rfl, hor, hx⟩
           have hBv := (Below.block (Hm.out.trans hx) w.heap.size (block_lt HBd.out)).trans HBd.out
           have ckv := row_cell (k := 5) hBv rfl
           have fkv := row_frozen (k := 5) hBv
           have Hor := Lib.hid hor
           have Hx := Lib.hid hx
           have HBv := Lib.hid hBv
           clear hor hx hBv))
       all_goals
        rcases Hor.out with ⟨z5, n5, hz, rfl, hF⟩ | ⟨hz, t, p, rfl, rfl⟩
        ·have hz' : dowO dayN 1 7 f = some (z5, n5) := hz
         have HO5 : Hid (buildO [a, b, c, d, e, f, g] = ((match fieldO [] 1970 3940 g with | none => none | some G => some [(z0, 0), (z1, 0), (z2, 0), (z3, n3), (z4, 0), ((z5).map dec1, n5), (G, 0)]) : Option (List (List Int × Int)))) := by
          show _ = _
          rw [HO4.out]; simp only [hz']
         obtain ⟨N5, hp⟩ := hF.ptr
         injection hp with hp
         subst hp
         have hxv := (Hd5.out.trans Hm.out).trans Hx.out
         have c6 := hxv.cell H6.out
         obtain ⟨u6, hu6⟩ : ∃ x, x = v5.setCell ⟨w.heap.size, 5, none⟩ (.pointer (some ⟨N5, 0, none⟩)) := ⟨_, rfl⟩
         have hx6 : Ext w u6 := by rw [hu6]; exact hxv.set (Nat.le_refl _) _ _
         have hB6 := set_row (k := 5) (u := .pointer (some ⟨N5, 0, none⟩)) HBv.out
         have G5 := Field.but hF HBv.out (But.set w.heap.size v5 5 (.pointer (some ⟨N5, 0, none⟩)))
         have hbut : But w.heap.size u5 u6 := by rw [hu6]; exact (But.ext (((Ext.drew u5).trans Hm.out).trans Hx.out)).trans (But.set _ _ _ _)
         have hbase : u5.heap.size ≤ m.heap.size := ((Ext.drew u5).trans Hm.out).size
         have hBlt : w.heap.size < m.heap.size := by have := block_lt HBd.out; have := Below.size Hm.out; omega
         have hbw : w.heap.size ≤ m.heap.size := by omega
         have hlen := dowO_len hz' lf
         rw [← hu6] at hB6 G5
         simp only [List.setIfInBounds_toArray, List.set_cons_zero, List.set_cons_succ, List.nil_append, List.cons_append] at hB6
         have HB5' := Lib.hid HBd.out
         clear hz hz' hF hxv Hor Hx HBv Hms cm5 cd5 Hd5
         go_wp2_with fail
         rw [← hu6]
         clear hu6 ckv fkv c6
         go_at_call 95
         refine (add_any _ m.heap.size z5 n5 _ G5 hlen).mono ?_
         rintro en y ⟨rfl, hF5, hbel⟩
         have hxy : Ext w y := Below.trans hx6 (Below.mono hbel hbw)
         have hBy := (hbel.block w.heap.size hBlt).trans hB6
         have FLy := (HF5.out.but HB5'.out (hbut.below hbel hbase)).snoc (hF5.mono hbw) (HF5.out.fresh hF5 hbase)
         have c6 := hxy.cell H6.out
         simp only [List.setIfInBounds_toArray, List.set_cons_zero, List.set_cons_succ, List.nil_append, List.cons_append] at FLy
         clear hF5 hbel hB6 HF5 HB5' hbut hbase hBlt hbw hlen G5 Hm HBd
         go_wp2_with fail
         go_at_call 90
         refine (parse_field (mk g) 1970 3940 _ [] _ (by rw [size_mk]; omega) (by omega) (by omega) (World.ownsRow_nil _ _ _ _) (by simp) (hE.ext hxy)).mono ?_
         rintro en v6 ⟨⟨z6, p6, hz, rfl, hF⟩ | ⟨hz, t, p, rfl⟩, hx⟩
         ·have hz' : fieldO [] 1970 3940 g = some z6 := hz
          have HO6 : Hid (buildO [a, b, c, d, e, f, g] = (some [(z0, 0), (z1, 0), (z2, 0), (z3, n3), (z4, 0), ((z5).map dec1, n5), (z6, 0)] : Option (List (List Int × Int)))) := by
           show _ = _
           rw [HO5.out]; simp only [hz']
          obtain ⟨N6, rfl⟩ := hF.ptr
          have hBv := (Below.block hx w.heap.size (block_lt hBy)).trans hBy
          have ckv := row_cell (k := 6) hBv rfl
          have fkv := row_frozen (k := 6) hBv
          have Fv := (FLy.ext hx).snoc (hF.mono (Below.size hxy)) (FLy.fresh hF (Nat.le_refl _))
          have hB7 := set_row (k := 6) (u := .pointer (some ⟨N6, 0, none⟩)) hBv
          have F7 := Fv.but hBv (But.set w.heap.size v6 6 (.pointer (some ⟨N6, 0, none⟩)))
          simp only [List.setIfInBounds_toArray, List.set_cons_zero, List.set_cons_succ, List.nil_append, List.cons_append] at hB7 F7
          have HB7 := Lib.hid hB7
          have HF7 := Lib.hid F7
          clear hz hz' hF hBv Fv hB7 F7 FLy hBy c6
          go_wp2_with fail
          go_ret2
          exact ⟨.inl ⟨_, _, HO6.out, rfl, w.heap.size, _, rfl, Nat.le_refl _, HB7.out, rfl, HF7.out⟩, (hxy.trans hx).set (Nat.le_refl _) _ _⟩
         ·have hz' : fieldO [] 1970 3940 g = none := hz
          have HO : Hid (buildO [a, b, c, d, e, f, g] = none) := by
           show _ = _
           rw [HO5.out]; simp only [hz']
          have hBv := (Below.block hx w.heap.size (block_lt hBy)).trans hBy
          have ckv := row_cell (k := 6) hBv rfl
          have fkv := row_frozen (k := 6) hBv
          clear hz hz' FLy hBy hBv
          go_wp2_with fail
          go_ret2
          exact ⟨.inr ⟨HO.out, t, p, rfl⟩, (hxy.trans hx).set (Nat.le_refl _) _ _⟩
        ·have hz' : dowO dayN 1 7 f = none := hz
         have HO : Hid (buildO [a, b, c, d, e, f, g] = none) := by
          show _ = _
          rw [HO4.out]; simp only [hz']
         have hxv := (Hd5.out.trans Hm.out).trans Hx.out
         clear hz hz' HF5
         go_wp2_with fail
         go_ret2
         exact ⟨.inr ⟨HO.out, t, p, rfl⟩, hxv.set (Nat.le_refl _) _ _⟩
      ·have hz' : fieldO monthN 1 12 e = none := hz
       have HO : Hid (buildO [a, b, c, d, e, f, g] = none) := by
        show _ = _
        rw [HO3.out]; simp only [hz']
       have hxv := (Hd4.out.trans Hm.out).trans Hx.out
       clear hz hz' HF4
       go_wp2_with fail
       go_ret2
       exact ⟨.inr ⟨HO.out, t, p, rfl⟩, hxv.set (Nat.le_refl _) _ _⟩
    ·have hz' : domO [] 1 31 d = none := hz
     have HO : Hid (buildO [a, b, c, d, e, f, g] = none) := by
      show _ = _
      rw [HO2.out]; simp only [hz']
     have hBv := (Below.block hx w.heap.size (block_lt hB3)).trans hB3
     have ckv := row_cell (k := 3) hBv rfl
     have fkv := row_frozen (k := 3) hBv
     clear hz hz' F3 hB3 hBv
     go_wp2_with fail
     go_ret2
     exact ⟨.inr ⟨HO.out, t, p, rfl⟩, (hx3.trans hx).set (Nat.le_refl _) _ _⟩
   ·have hz' : fieldO [] 0 23 c = none := hz
    have HO : Hid (buildO [a, b, c, d, e, f, g] = none) := by
     show _ = _
     rw [HO1.out]; simp only [hz']
    have hBv := (Below.block hx w.heap.size (block_lt hB2)).trans hB2
    have ckv := row_cell (k := 2) hBv rfl
    have fkv := row_frozen (k := 2) hBv
    clear hz hz' F2 hB2 hBv
    go_wp2_with fail
    go_ret2
    exact ⟨.inr ⟨HO.out, t, p, rfl⟩, (hx2.trans hx).set (Nat.le_refl _) _ _⟩
  ·have hz' : fieldO [] 0 59 b = none := hz
   have HO : Hid (buildO [a, b, c, d, e, f, g] = none) := by
    show _ = _
    rw [HO0.out]; simp only [hz']
   have hBv := (Below.block hx w.heap.size (block_lt hB1)).trans hB1
   have ckv := row_cell (k := 1) hBv rfl
   have fkv := row_frozen (k := 1) hBv
   clear hz hz' F1 hB1 hBv
   go_wp2_with fail
   go_ret2
   exact ⟨.inr ⟨HO.out, t, p, rfl⟩, (hx1.trans hx).set (Nat.le_refl _) _ _⟩
 ·have hz' : fieldO [] 0 59 a = none := hz
  have HO : Hid (buildO [a, b, c, d, e, f, g] = none) := by
   show _ = _
   unfold buildO; simp only [hz']
  have hBv := (Below.block hx w.heap.size (block_lt hB0)).trans hB0
  have ckv := row_cell (k := 0) hBv rfl
  have fkv := row_frozen (k := 0) hBv
  clear hz hz' F0 hB0 hBv
  go_wp2_with fail
  go_ret2
  exact ⟨.inr ⟨HO.out, t, p, rfl⟩, (hx0.trans hx).set (Nat.le_refl _) _ _⟩
end Go.Proofs.YtmaffdhcmdhjfaaGreatDoor
