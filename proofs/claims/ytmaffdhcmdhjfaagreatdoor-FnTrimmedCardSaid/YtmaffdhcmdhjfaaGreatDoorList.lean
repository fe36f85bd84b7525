/- parseListField. (Printed by genlist.py.) -/
import Derived.Test.YtmaffdhcmdhjfaaGreatDoorStep
import Derived.Sort.OwnSortedInts
namespace Go.Proofs.YtmaffdhcmdhjfaaGreatDoor
open Go.RowKit Go.Lib

theorem stepsL_len (a b s : Int) (h0 : 0 ≤ a) (hab : a ≤ b) (hb : b ≤ 4000) (hs : 1 ≤ s) : 0 < (stepsL a b s).length ∧ (stepsL a b s).length ≤ 4001 := by
  unfold stepsL
  have hq0 : 0 ≤ (b - a) / s := Int.ediv_nonneg (by omega) (by omega)
  have hqb : (b - a) / s ≤ b - a := Int.ediv_le_self _ (by omega)
  simp; omega
theorem ite_some {c : Bool} {x z : List Int} (h : (if c then some x else none) = some z) : c = true ∧ x = z := by
  cases c
  · cases h
  · injection h with h; exact ⟨rfl, h⟩
theorem stepO_len {names : List (List UInt8)} {lo hi : Int} {l : List UInt8} {zs : List Int} (h : stepO names lo hi l = some zs) (h0 : 0 ≤ lo) (h1 : hi ≤ 4000) : 0 < zs.length ∧ zs.length ≤ 4001 := by
  unfold stepO at h
  split at h
  · split at h
    · cases h
    · split at h
      · cases h
      · obtain ⟨hc, rfl⟩ := ite_some h
        simp only [within, Bool.and_eq_true, decide_eq_true_eq] at hc
        exact stepsL_len _ _ _ (by omega) (by omega) (by omega) (by omega)
  · cases h
theorem rangeO_len {names : List (List UInt8)} {lo hi : Int} {l : List UInt8} {zs : List Int} (h : rangeO names lo hi l = some zs) (h0 : 0 ≤ lo) (h1 : hi ≤ 4000) : 0 < zs.length ∧ zs.length ≤ 4001 := by
  unfold rangeO at h
  split at h
  · split at h
    · cases h
    · split at h
      · cases h
      · obtain ⟨hc, rfl⟩ := ite_some h
        simp only [within, Bool.and_eq_true, decide_eq_true_eq] at hc
        exact stepsL_len _ _ _ (by omega) (by omega) (by omega) (by omega)
  · cases h

/-- the numbers of all parts, one behind the other, if all are right -/
def catAll (f : List UInt8 → Option (List Int)) : List (List UInt8) → Option (List Int)
  | [] => some []
  | x :: xs => match f x with
    | none => none
    | some a => (catAll f xs).map (a ++ ·)
theorem catAll_append (f : List UInt8 → Option (List Int)) : ∀ (a b : List (List UInt8)), catAll f (a ++ b) = (catAll f a).bind fun x => (catAll f b).map (x ++ ·)
  | [], b => by simp [catAll]
  | x :: xs, b => by
    simp only [List.cons_append, catAll]
    cases f x with
    | none => rfl
    | some n =>
      simp only [catAll_append f xs b]
      cases catAll f xs with
      | none => rfl
      | some y => cases catAll f b <;> simp
theorem catAll_split (f : List UInt8 → Option (List Int)) (l : List (List UInt8)) (k : Nat) (x : List UInt8) (zs : List Int) (hx : l[k]? = some x) (h : catAll f (l.take k) = some zs) :
    (f x = none → catAll f l = none) ∧ (∀ a, f x = some a → catAll f (l.take (k + 1)) = some (zs ++ a)) := by
  obtain ⟨hk, rfl⟩ := List.getElem?_eq_some_iff.mp hx
  constructor
  · intro hn
    conv => lhs; rw [← List.take_append_drop k l, List.drop_eq_getElem_cons hk]
    rw [catAll_append, h]
    simp [catAll, hn]
  · intro a ha
    rw [List.take_succ_eq_append_getElem hk, catAll_append, h]
    simp [catAll, ha]

def sortL (l : List Int) : List Int := l.mergeSort fun x y => decide (x ≤ y)
theorem sort_any (v : Value) (base : Nat) (zs : List Int) (w : World) (hI : Ints w base v zs) (hl : zs.length ≤ 100000000) :
    Calls Tryz.prog 154 #[v] w fun e w' => e = .returned (.tuple #[]) ∧ Ints w' base v (sortL zs) ∧ w.grownBy w' v.ownBlock := by
  rcases hI.2 with ⟨rfl, h0⟩ | ⟨g, cap, cur, rfl, hb, hg, hnc, hcm, hcs, htake⟩
  · have hz : zs = [] := List.length_eq_zero_iff.mp h0
    subst hz
    refine (Tryz.sort_Ints_none none 0 w).mono ?_
    rintro e w' ⟨rfl, rfl⟩
    exact ⟨rfl, by simpa [sortL] using hI, ⟨rfl, rfl, rfl, Nat.le_refl _, fun _ _ _ => rfl⟩⟩
  · have hH : Go.Sort.Holds (Value.int .i64) w g 0 zs.toArray := by
      intro j hj
      have hj' : j < zs.length := by simpa using hj
      rw [Nat.zero_add]
      refine ⟨?_, World.ownsRow.frozenAt hI j⟩
      rw [World.ownsRow.cellAt hI j (by omega)]
      simp [ints, List.getElem?_map, List.getElem?_eq_getElem hj', hj']
    refine (Tryz.sort_Ints g 0 cap zs w hH (block_lt hg) (by omega)).mono ?_
    rintro e w' ⟨rfl, n, os, rfl⟩
    have hlen : (sortL zs).length = zs.length := by simp [sortL]
    refine ⟨rfl, ?_, grownBy_sortedI _⟩
    unfold Ints
    rw [hlen]
    exact ownsRow_sortedI (ss := zs) hlen hb hg hnc hcm hcs

theorem Field.open {w : World} {base : Nat} {v : Value} {zs : List Int} {n : Int} (h : Field w base v zs n) (hz : 0 < zs.length) :
    ∃ N g cap, v = .pointer (some ⟨N, 0, none⟩) ∧ w.cell? ⟨N, 0, none⟩ = some (.slice (some ⟨g, 0, none⟩) zs.length cap) ∧ (∀ j u, (ints zs)[j]? = some u → w.cell? ((⟨g, 0, none⟩ : Addr).add j) = some u) := by
  obtain ⟨N, sl, rfl, hb, hN, hI⟩ := h
  obtain ⟨g, cap, rfl, _, _, hc⟩ := hI.form hz
  refine ⟨N, g, cap, rfl, by simp [World.cell?, hN], fun j u hu => ?_⟩
  have ha : (⟨g, 0, none⟩ : Addr).add j = ⟨g, j, none⟩ := by unfold Addr.add; split <;> simp_all
  rw [ha]
  simp only [ints, List.getElem?_map, Option.map_eq_some_iff] at hu
  obtain ⟨x, hx, rfl⟩ := hu
  exact hc j x hx
theorem ints_append (a b : List Int) : ints (a ++ b) = ints a ++ ints b := by simp [ints]
theorem ints_one (a : List Int) : ∀ u ∈ ints a, u.oneCell' = true := by
  intro u hu
  simp only [ints, List.mem_map] at hu
  obtain ⟨x, _, rfl⟩ := hu
  rfl
theorem Ext.own_grown' {w wr w1 : World} {e size n : Nat} {v : Value} {xs : List Value} (h : Ext w wr) (hown : wr.ownsRow w.heap.size e size v n xs) (hg : wr.grownBy w1 v.ownBlock) : Ext w w1 :=
  Below.grown h hg h.size (fun k hk => (hown.lt k hk).1)

def listO (names : List (List UInt8)) (lo hi : Int) (l : List UInt8) : Option (List Int) :=
  match normAll names (outC 45 (outC 47 (splitL l 44))) with
  | none => none
  | some zs => match catAll (stepO names lo hi) (inC 47 (splitL l 44)) with
    | none => none
    | some ss => match catAll (rangeO names lo hi) (inC 45 (outC 47 (splitL l 44))) with
      | none => none
      | some rs => some (sortL (zs ++ ss ++ rs))

theorem inC_mem {c : UInt8} {l : List (List UInt8)} {x : List UInt8} (h : x ∈ inC c l) : x ∈ l := (List.mem_filter.mp h).1
theorem outC_mem {c : UInt8} {l : List (List UInt8)} {x : List UInt8} (h : x ∈ outC c l) : x ∈ l := (List.mem_filter.mp h).1
theorem inC_le (c : UInt8) (l : List (List UInt8)) : (inC c l).length ≤ l.length := List.length_filter_le _ _
theorem outC_le (c : UInt8) (l : List (List UInt8)) : (outC c l).length ≤ l.length := List.length_filter_le _ _

set_option maxHeartbeats 3200000 in
set_option maxRecDepth 1000000 in
theorem parse_list (s : ByteArray) (lo hi : Int) (vn : Value) (names : List (List UInt8)) (w : World) (hs : s.size ≤ 2000) (hlo : 0 ≤ lo) (hhi : hi ≤ 4000) (hvn : Strs w 0 vn names) (hnn : names.length ≤ 13) (hE : Env w) :
    Calls Tryz.prog 120 #[.string s, .agg #[.int .i64 lo, .int .i64 hi], vn] w fun e w' => ((∃ zs v, listO names lo hi (bytes s) = some zs ∧ e = .returned (.tuple #[v, .nilIface]) ∧ Field w' w.heap.size v zs 0) ∨
      (listO names lo hi (bytes s) = none ∧ ∃ t p, e = .returned (.tuple #[.pointer none, .iface t p]))) ∧ Ext w w' := by
  obtain ⟨i0, hi0, hz0, hz1, hz2⟩ := info_parts Tryz.info3
  obtain ⟨an, capn, rfl⟩ := own_any hvn
  have Hvn := Lib.hid hvn
  clear hvn
  obtain ⟨T, hT⟩ : ∃ T, T = splitL (bytes s) 44 := ⟨_, rfl⟩
  have hTl := splitL_len (bytes s) 44
  have hTi := splitL_item (bytes s) 44
  rw [bytes_length] at hTl hTi
  rw [← hT] at hTl hTi
  have hL : listO names lo hi (bytes s) = match normAll names (outC 45 (outC 47 T)) with
    | none => none
    | some zs => match catAll (stepO names lo hi) (inC 47 T) with
      | none => none
      | some ss => match catAll (rangeO names lo hi) (inC 45 (outC 47 T)) with
        | none => none
        | some rs => some (sortL (zs ++ ss ++ rs)) := by rw [hT]; rfl
  have HL := Lib.hid hL
  clear hL
  have HT := Lib.hid hT
  have HTi := Lib.hid hTi
  have hx0 := Ext.alloc w (.cells #[.int .i64 lo, .int .i64 hi] 130)
  clear hT hTi
  go_enter Tryz.func120, Tryz.ntmps120
  go_wp2_with fail
  go_at_call 76
  refine (zz_split s 44 _ (by omega)).mono ?_
  rintro e w1 ⟨v, rfl, hst, hx1⟩
  rw [← HT.out] at hst
  have hlo1 : w1.cell? ⟨w.heap.size, 0, none⟩ = some (.int .i64 lo) := hx1.cell (by simp)
  have hhi1 : w1.cell? ⟨w.heap.size, 1, none⟩ = some (.int .i64 hi) := hx1.cell (by simp)
  have hx01 := hx0.trans hx1
  clear hx0 hx1
  obtain ⟨a1, cap1, rfl⟩ := own_any hst
  have Hst := Lib.hid hst.zero
  clear hst
  go_wp2_with fail
  go_at_call 151
  refine (extract_step _ T _ Hst.out (by omega) (fun x hx => by have := HTi.out x hx; omega)).mono ?_
  rintro e w2 ⟨v1, v2, rfl, hs1, hs2, hx2⟩
  obtain ⟨a2, cap2, rfl⟩ := own_any hs1
  obtain ⟨a3, cap3, rfl⟩ := own_any hs2
  have Hs1 := Lib.hid hs1.zero
  have Hs2 := Lib.hid hs2.zero
  have hlo2 := hx2.cell hlo1
  have hhi2 := hx2.cell hhi1
  have hx02 := hx01.trans hx2
  clear hs1 hs2 hx2 hlo1 hhi1 Hst
  have l1 := outC_le 47 T
  have l2 := inC_le 47 T
  have l3 := outC_le 45 (outC 47 T)
  have l4 := inC_le 45 (outC 47 T)
  go_wp2_with fail
  go_at_call 152
  refine (extract_range _ (outC 47 T) _ Hs1.out (by omega) (fun x hx => by have := HTi.out x (outC_mem hx); omega)).mono ?_
  rintro e w3 ⟨v1, v3, rfl, hs1, hs3, hx3⟩
  obtain ⟨a4, cap4, rfl⟩ := own_any hs1
  obtain ⟨a5, cap5, rfl⟩ := own_any hs3
  have Hv := Lib.hid hs1.zero
  have Hr := Lib.hid hs3.zero
  have hlo3 := hx3.cell hlo2
  have hhi3 := hx3.cell hhi2
  have hx03 := hx02.trans hx3
  have Hs := Lib.hid (Hs2.out.ext hx3)
  clear hs1 hs3 hx3 hlo2 hhi2 Hs1 Hs2
  have hE3 := hE.ext hx03
  go_wp2_with fail
  go_at_call 153
  refine (translate_lits _ _ names (outC 45 (outC 47 T)) _ (Hvn.out.ext hx03) hnn Hv.out (by omega) (fun x hx => by have := HTi.out x (outC_mem (outC_mem hx)); omega) hE3).mono ?_
  rintro e w4 ⟨⟨zs, v', hz, rfl, hI⟩ | ⟨hz, t, p, rfl⟩, hx4⟩
  · have hzl : zs.length ≤ 2001 := by rw [normAll_len _ _ _ hz]; omega
    have HL2 : Hid (listO names lo hi (bytes s) = match catAll (stepO names lo hi) (inC 47 T) with
      | none => none
      | some ss => match catAll (rangeO names lo hi) (inC 45 (outC 47 T)) with
        | none => none
        | some rs => some (sortL (zs ++ ss ++ rs))) := by
      show _ = _
      rw [HL.out, hz]
    have HI := Lib.hid hI
    clear HL hz hI Hv hE3
    obtain ⟨n, hn0⟩ : ∃ n, n = (inC 47 T).length := ⟨_, rfl⟩
    have hcell : 0 < n → ∃ g, a3 = some ⟨g, 0, none⟩ ∧ ∀ (j : Nat) (x : List UInt8), (inC 47 T)[j]? = some x → w3.cell? ⟨g, j, none⟩ = some (.string (mk x)) := by
      intro h
      obtain ⟨g, cap', he, _, _, hc⟩ := Hs.out.form (by omega)
      injection he with he1
      exact ⟨g, he1, hc⟩
    rw [← hn0]
    have hnb : n ≤ 2001 := by omega
    have Hn := Lib.hid hn0
    clear hn0
    go_wp2_with fail
    go_loopw [12, 15, 16, 17, 45] (fun v12 _ _ _ i wr => ∃ (k : Nat) (ys : List Int), k ≤ n ∧ i = .int .i64 k ∧ Hid (catAll (stepO names lo hi) ((inC 47 T).take k) = some ys) ∧ ys.length ≤ k * 4001 ∧ Hid (Ints wr w3.heap.size v12 (zs ++ ys)) ∧ Ext w3 wr)
      (fun v12 _ _ _ i _ => n - (RowKit.intOf i).toNat)
    case atStart => exact ⟨0, [], Nat.zero_le _, rfl, rfl, by simp, by rw [List.append_nil]; exact HI.out, hx4⟩
    case round =>
      obtain ⟨k, ys, hk, rfl, Hy, hyl, HI2, hx⟩ := hrel
      by_cases hlt : k < n
      · obtain ⟨g, rfl, hc⟩ := hcell (by omega)
        obtain ⟨x, hxx⟩ : ∃ x, (inC 47 T)[k]? = some x := ⟨_, List.getElem?_eq_getElem (by rw [← Hn.out]; exact hlt)⟩
        have hck := hx.cell (hc k x hxx)
        have hxl := HTi.out x (inC_mem (List.mem_iff_getElem?.mpr ⟨k, hxx⟩))
        have Hsp := Lib.hid (catAll_split (stepO names lo hi) (inC 47 T) k x ys hxx Hy.out)
        have hlor := hx.cell hlo3
        have hhir := hx.cell hhi3
        have hx0r := hx03.trans hx
        clear hxx hc hcell
        go_wp2_with fail
        go_at_call 121
        refine (parse_step (mk x) lo hi _ names _ (by rw [size_mk]; omega) hlo hhi (Hvn.out.ext hx0r) hnn (hE.ext hx0r)).mono ?_
        rintro e w7 ⟨⟨qs, v7, hq, rfl, hF⟩ | ⟨hq, t, p, rfl⟩, hx7⟩
        · rw [bytes_mk] at hq
          have hql := stepO_len hq hlo hhi
          have Hsp2 := Lib.hid (Hsp.out.2 qs hq)
          obtain ⟨N7, g7, cap7, rfl, hc7, hnews⟩ := hF.open hql.1
          have own7 : w7.ownsRow w3.heap.size 3 1 u12 (zs ++ ys).length (ints (zs ++ ys)) := own_ext hx7 HI2.out
          have Hnews := Lib.hid hnews
          clear hq Hsp hF hnews
          go_wp2_with (first
            | (at_builtin; refine wpList_append_own _ rfl _ _ 38 rfl w3.heap.size 3 i0 (.int .i64 0) 1 8 Tryz.underlying38 hi0 hz0 hz1 hz2 rfl (by decide) _ _ _ rfl own7 ⟨g7, 0, none⟩ qs.length cap7 (ints qs) rfl (by simp [ints]) ?c1 ?c2 ?c3 ?c4 ?c5 ?_)
            | go_in)
          case c1 => exact Hnews.out
          case c2 => exact ints_one qs
          case c3 => unfold maxLen; simp only [List.length_append]; omega
          case c4 => simp only [List.length_append]; omega
          case c5 => exact (hx.trans hx7).size
          intro v' w8 hown' hgrow _
          have A1 : Hid (Ints w8 w3.heap.size v' (zs ++ (ys ++ qs))) := by
            show World.ownsRow _ _ _ _ _ _ _
            have e1 : (zs ++ (ys ++ qs)).length = (zs).length + ys.length + qs.length := by simp [Nat.add_assoc]
            rw [e1, ← List.append_assoc, ints_append]; exact hown'
          have A4 := Ext.own_grown' (hx.trans hx7) own7 hgrow
          clear hown' hgrow own7 Hnews
          go_wp2_with fail
          go_roundw
          case rel => exact ⟨k + 1, ys ++ qs, by omega, by go_num, Hsp2, by simp only [List.length_append]; omega, A1, A4⟩
          case measure => simp [RowKit.intOf]; omega
        · rw [bytes_mk] at hq
          have hr := Hsp.out.1 hq
          have Hr2 : Hid (listO names lo hi (bytes s) = none) := by
            show _ = _
            rw [HL2.out, hr]
          clear hr hq Hsp
          go_wp2_with fail
          go_ret2
          exact ⟨.inr ⟨Hr2.out, t, p, rfl⟩, hx0r.trans hx7⟩
      · have hkn : (inC 47 T).take k = (inC 47 T) := List.take_of_length_le (by rw [← Hn.out]; omega)
        rw [hkn] at Hy
        have HL3 : Hid (listO names lo hi (bytes s) = match catAll (rangeO names lo hi) (inC 45 (outC 47 T)) with
          | none => none
          | some rs => some (sortL (zs ++ ys ++ rs))) := by
          show _ = _
          rw [HL2.out, Hy.out]
        have hkb : k ≤ 2001 := by omega
        have HIa := HI2
        have hxa := hx
        have hyb : ys.length ≤ 2001 * 4001 := by omega
        clear HL2 Hy HI2 hx Hn HI hyl hkn hcell
        obtain ⟨ss, hss⟩ : ∃ ss, ss = zs ++ ys := ⟨_, rfl⟩
        have hssl : ss.length ≤ 2001 * 4002 := by rw [hss, List.length_append]; omega
        rw [← hss] at HL3 HIa
        clear hss
        obtain ⟨n, hn0⟩ : ∃ n, n = (inC 45 (outC 47 T)).length := ⟨_, rfl⟩
        have hcell : 0 < n → ∃ g, a5 = some ⟨g, 0, none⟩ ∧ ∀ (j : Nat) (x : List UInt8), (inC 45 (outC 47 T))[j]? = some x → w3.cell? ⟨g, j, none⟩ = some (.string (mk x)) := by
          intro h
          obtain ⟨g, cap', he, _, _, hc⟩ := Hr.out.form (by omega)
          injection he with he1
          exact ⟨g, he1, hc⟩
        rw [← hn0]
        have hnb : n ≤ 2001 := by omega
        have Hn := Lib.hid hn0
        clear hn0
        go_wp2_with fail
        go_loopw [12, 19, 20, 21, 68] (fun v12 _ _ _ i wr => ∃ (k : Nat) (ys : List Int), k ≤ n ∧ i = .int .i64 k ∧ Hid (catAll (rangeO names lo hi) ((inC 45 (outC 47 T)).take k) = some ys) ∧ ys.length ≤ k * 4001 ∧ Hid (Ints wr w3.heap.size v12 (ss ++ ys)) ∧ Ext w3 wr)
          (fun v12 _ _ _ i _ => n - (RowKit.intOf i).toNat)
        case atStart => exact ⟨0, [], Nat.zero_le _, rfl, rfl, by simp, by rw [List.append_nil]; exact HIa.out, hxa⟩
        case round =>
          obtain ⟨k, ys, hk, rfl, Hy, hyl, HI2, hx⟩ := hrel
          by_cases hlt : k < n
          · obtain ⟨g, rfl, hc⟩ := hcell (by omega)
            obtain ⟨x, hxx⟩ : ∃ x, (inC 45 (outC 47 T))[k]? = some x := ⟨_, List.getElem?_eq_getElem (by rw [← Hn.out]; exact hlt)⟩
            have hck := hx.cell (hc k x hxx)
            have hxl := HTi.out x (outC_mem <| inC_mem (List.mem_iff_getElem?.mpr ⟨k, hxx⟩))
            have Hsp := Lib.hid (catAll_split (rangeO names lo hi) (inC 45 (outC 47 T)) k x ys hxx Hy.out)
            have hlor := hx.cell hlo3
            have hhir := hx.cell hhi3
            have hx0r := hx03.trans hx
            clear hxx hc hcell
            go_wp2_with fail
            go_at_call 122
            refine (parse_range (mk x) lo hi _ names _ (by rw [size_mk]; omega) hlo hhi (Hvn.out.ext hx0r) hnn (hE.ext hx0r)).mono ?_
            rintro e w7 ⟨⟨qs, v7, hq, rfl, hF⟩ | ⟨hq, t, p, rfl⟩, hx7⟩
            · rw [bytes_mk] at hq
              have hql := rangeO_len hq hlo hhi
              have Hsp2 := Lib.hid (Hsp.out.2 qs hq)
              obtain ⟨N7, g7, cap7, rfl, hc7, hnews⟩ := hF.open hql.1
              have own7 : w7.ownsRow w3.heap.size 3 1 u12 (ss ++ ys).length (ints (ss ++ ys)) := own_ext hx7 HI2.out
              have Hnews := Lib.hid hnews
              clear hq Hsp hF hnews
              go_wp2_with (first
                | (at_builtin; refine wpList_append_own _ rfl _ _ 38 rfl w3.heap.size 3 i0 (.int .i64 0) 1 8 Tryz.underlying38 hi0 hz0 hz1 hz2 rfl (by decide) _ _ _ rfl own7 ⟨g7, 0, none⟩ qs.length cap7 (ints qs) rfl (by simp [ints]) ?c1 ?c2 ?c3 ?c4 ?c5 ?_)
                | go_in)
              case c1 => exact Hnews.out
              case c2 => exact ints_one qs
              case c3 => unfold maxLen; simp only [List.length_append]; omega
              case c4 => simp only [List.length_append]; omega
              case c5 => exact (hx.trans hx7).size
              intro v' w8 hown' hgrow _
              have A1 : Hid (Ints w8 w3.heap.size v' (ss ++ (ys ++ qs))) := by
                show World.ownsRow _ _ _ _ _ _ _
                have e1 : (ss ++ (ys ++ qs)).length = (ss).length + ys.length + qs.length := by simp [Nat.add_assoc]
                rw [e1, ← List.append_assoc, ints_append]; exact hown'
              have A4 := Ext.own_grown' (hx.trans hx7) own7 hgrow
              clear hown' hgrow own7 Hnews
              go_wp2_with fail
              go_roundw
              case rel => exact ⟨k + 1, ys ++ qs, by omega, by go_num, Hsp2, by simp only [List.length_append]; omega, A1, A4⟩
              case measure => simp [RowKit.intOf]; omega
            · rw [bytes_mk] at hq
              have hr := Hsp.out.1 hq
              have Hr2 : Hid (listO names lo hi (bytes s) = none) := by
                show _ = _
                rw [HL3.out, hr]
              clear hr hq Hsp
              go_wp2_with fail
              go_ret2
              exact ⟨.inr ⟨Hr2.out, t, p, rfl⟩, hx0r.trans hx7⟩
          · have hkn : (inC 45 (outC 47 T)).take k = (inC 45 (outC 47 T)) := List.take_of_length_le (by rw [← Hn.out]; omega)
            rw [hkn] at Hy
            have Hr2 : Hid (listO names lo hi (bytes s) = some (sortL (ss ++ ys))) := by
              show _ = _
              rw [HL3.out, Hy.out]
            obtain ⟨ao, co, rfl⟩ := own_any HI2.out
            have hlen : (ss ++ ys).length ≤ 100000000 := by simp only [List.length_append]; omega
            obtain ⟨m, hm⟩ : ∃ m, m = (ss ++ ys).length := ⟨_, rfl⟩
            rw [← hm] at HI2 ⊢
            clear hm
            clear HL3 Hy hcell
            go_wp2_with fail
            go_at_call 154
            refine (sort_any _ w3.heap.size (ss ++ ys) _ HI2.out hlen).mono ?_
            rintro e w8 ⟨rfl, hIs, hgr⟩
            have hx8 := Ext.own_grown' hx HI2.out hgr
            have HI3 := Lib.hid (Ints.mono hIs hx03.size)
            clear hgr hIs HI2
            go_wp2_with fail
            go_at_call 118
            refine (new_field _ _ _ _).mono ?_
            rintro e w9 ⟨rfl, rfl⟩
            go_wp2_with fail
            go_ret2
            exact ⟨.inl ⟨_, _, Hr2.out, rfl, Field.mk HI3.out (hx03.trans hx8).size⟩, (hx03.trans hx8).trans (Ext.alloc _ _)⟩
  · have Hr2 : Hid (listO names lo hi (bytes s) = none) := by
      show _ = _
      rw [HL.out, hz]
    clear hz HL
    go_wp2_with fail
    go_ret2
    exact ⟨.inr ⟨Hr2.out, t, p, rfl⟩, hx03.trans hx4⟩
end Go.Proofs.YtmaffdhcmdhjfaaGreatDoor
