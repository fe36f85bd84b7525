/- translateLiterals. -/
import Derived.Test.YtmaffdhcmdhjfaaGreatDoorExt
namespace Go.Proofs.YtmaffdhcmdhjfaaGreatDoor
open Go.RowKit Go.Lib

/-- the numbers of all texts, if all have one -/
def normAll (names : List (List UInt8)) : List (List UInt8) → Option (List Int)
  | [] => some []
  | x :: xs => match normalizeO names x with
    | none => none
    | some n => (normAll names xs).map (n :: ·)

theorem normAll_append (names : List (List UInt8)) : ∀ (a b : List (List UInt8)), normAll names (a ++ b) = (normAll names a).bind fun x => (normAll names b).map (x ++ ·)
  | [], b => by simp [normAll]
  | x :: xs, b => by
    simp only [List.cons_append, normAll]
    cases normalizeO names x with
    | none => rfl
    | some n =>
      simp only [normAll_append names xs b]
      cases normAll names xs with
      | none => rfl
      | some y => cases normAll names b <;> simp
theorem normAll_split (names : List (List UInt8)) (l : List (List UInt8)) (k : Nat) (x : List UInt8) (zs : List Int) (hx : l[k]? = some x) (h : normAll names (l.take k) = some zs) :
    normAll names l = (match normalizeO names x with
      | none => none
      | some n => (normAll names (l.drop (k + 1))).map fun r => zs ++ n :: r) ∧
    normAll names (l.take (k + 1)) = (normalizeO names x).map fun n => zs ++ [n] := by
  obtain ⟨hk, rfl⟩ := List.getElem?_eq_some_iff.mp hx
  constructor
  · conv => lhs; rw [← List.take_append_drop k l, List.drop_eq_getElem_cons hk]
    rw [normAll_append, h]
    simp only [Option.bind_some, normAll]
    cases normalizeO names l[k] with
    | none => rfl
    | some n => simp only [Option.map_map]; rfl
  · rw [List.take_succ_eq_append_getElem hk, normAll_append, h]
    simp only [Option.bind_some, normAll]
    cases normalizeO names l[k] <;> rfl
theorem normAll_len (names : List (List UInt8)) : ∀ (l : List (List UInt8)) (zs : List Int), normAll names l = some zs → zs.length = l.length
  | [], zs, h => by simp [normAll] at h; subst h; rfl
  | x :: xs, zs, h => by
    unfold normAll at h
    cases hn : normalizeO names x with
    | none => rw [hn] at h; cases h
    | some n =>
      rw [hn] at h
      simp only [Option.map_eq_some_iff] at h
      obtain ⟨y, hy, rfl⟩ := h
      simp [normAll_len names xs y hy]

set_option maxHeartbeats 1600000 in
set_option maxRecDepth 1000000 in
theorem translate_lits (vn v : Value) (names l : List (List UInt8)) (w : World) (hvn : Strs w 0 vn names) (hnn : names.length ≤ 13) (hv : Strs w 0 v l) (hl : l.length ≤ 4096) (hi : ∀ x ∈ l, x.length ≤ 4096) (hE : Env w) :
    Calls Tryz.prog 153 #[vn, v] w fun e w' => ((∃ zs v', normAll names l = some zs ∧ e = .returned (.tuple #[v', .nilIface]) ∧ Ints w' w.heap.size v' zs) ∨
      (normAll names l = none ∧ ∃ t p, e = .returned (.tuple #[.slice none 0 0, .iface t p]))) ∧ Ext w w' := by
  obtain ⟨i0, hi0, hz0, hz1, hz2⟩ := info_parts Tryz.info3
  obtain ⟨a, cap, rfl⟩ := own_any hv
  obtain ⟨an, capn, rfl⟩ := own_any hvn
  obtain ⟨n, hn0⟩ : ∃ n, n = l.length := ⟨_, rfl⟩
  have hcell : 0 < n → ∃ g, a = some ⟨g, 0, none⟩ ∧ ∀ (j : Nat) (x : List UInt8), l[j]? = some x → w.cell? ⟨g, j, none⟩ = some (.string (mk x)) := by
    intro h
    obtain ⟨g, cap', he, _, _, hc⟩ := hv.form (by omega)
    injection he with he1
    exact ⟨g, he1, hc⟩
  rw [← hn0]
  have hn' : n ≤ 4096 := by omega
  have Hnn := Lib.hid hn0
  have Hvn := Lib.hid hvn
  clear hv hl hn0 hvn
  go_enter Tryz.func153, Tryz.ntmps153
  go_wp2_with (first
    | (at_make; refine wpList_make_own _ rfl _ _ 38 rfl w.heap.size 3 i0 (.int .i64 0) 1 Tryz.underlying38 hi0 hz0 hz1 .i64 .i64 (n : Int) n rfl rfl rfl ?c1 ?c2 ?c3 ?_)
    | fail)
  case c1 => rw [hz2]; omega
  case c2 => unfold maxLen; omega
  case c3 => omega
  intro w1 own1 gr1
  have hx1 : Ext w w1 := Below.grown (Below.refl _ _) gr1 (Nat.le_refl _) (fun k h => by cases h)
  go_wp2_with fail
  go_loopw [6, 8, 9, 10, 16] (fun v6 _ _ _ i wr => ∃ (k : Nat) (zs : List Int), k ≤ n ∧ i = .int .i64 k ∧ zs.length = k ∧ Hid (normAll names (l.take k) = some zs) ∧ Hid (wr.ownsRow w.heap.size 3 1 v6 zs.length (ints zs)) ∧ Ext w wr)
    (fun _ _ _ _ i _ => n - (RowKit.intOf i).toNat)
  case atStart => exact ⟨0, [], Nat.zero_le _, rfl, rfl, rfl, own1, hx1⟩
  case round =>
    obtain ⟨k, zs, hk, rfl, hzl, Hz, H6, hx⟩ := hrel
    clear own1 gr1
    by_cases hlt : k < n
    · obtain ⟨g, rfl, hc⟩ := hcell (by omega)
      obtain ⟨x, hxx⟩ : ∃ x, l[k]? = some x := ⟨_, List.getElem?_eq_getElem (by rw [← Hnn.out]; exact hlt)⟩
      have hck := hx.cell (hc k x hxx)
      have hxl := hi x (List.mem_iff_getElem?.mpr ⟨k, hxx⟩)
      have Hs := Lib.hid (normAll_split names l k x zs hxx Hz.out)
      clear hxx hc hcell
      go_wp2_with fail
      go_at_call 123
      refine (normalize_any _ names (mk x) _ (by rw [size_mk]; exact hxl) hnn (hE.ext hx) (Hvn.out.ext hx)).mono ?_
      rintro e w3 ⟨⟨m, hm, rfl⟩ | ⟨hm, m, t, p, rfl⟩, hx3⟩
      · have hs := Hs.out
        rw [bytes_mk] at hm
        rw [hm] at hs
        have Hs2 := Lib.hid hs.2
        clear hs Hs hm
        have own6 := own_ext hx3 H6.out
        go_wp2_with (first
          | (at_builtin; refine wpList_append_own _ rfl _ _ 38 rfl w.heap.size 3 i0 (.int .i64 0) 1 8 Tryz.underlying38 hi0 hz0 hz1 hz2 rfl (by decide) _ _ _ rfl (own6.alloc _) ⟨w3.heap.size, 0, none⟩ 1 1 [.int .i64 m] rfl rfl ?c1 ?c2 ?c3 ?c4 ?c5 ?_)
          | go_in)
        case c1 => exact cell_one_new _ _ _
        case c2 => intro u hu; simp at hu; subst hu; rfl
        case c3 => unfold maxLen; omega
        case c4 => omega
        case c5 => have := (hx.trans hx3).size; simp; omega
        intro v' w5 hown' hgrow _
        have A1 : Hid (w5.ownsRow w.heap.size 3 1 v' (zs ++ [m]).length (ints (zs ++ [m]))) := by
          show World.ownsRow _ _ _ _ _ _ _
          rw [ints_snoc]; simpa [hzl] using hown'
        have A4 := Ext.own_grown (hx.trans hx3) own6 hgrow
        clear hown' hgrow own6
        go_wp2_with fail
        go_roundw
        case rel => exact ⟨k + 1, zs ++ [m], by omega, by go_num, by simp; omega, by show _ = _; rw [Hs2.out]; rfl, A1, A4⟩
        case measure => simp [RowKit.intOf]; omega
      · have hs := Hs.out
        rw [bytes_mk] at hm
        rw [hm] at hs
        have Hs1 := Lib.hid hs.1
        clear hs Hs hm
        go_wp2_with fail
        go_ret2
        exact ⟨.inr ⟨Hs1.out, t, p, rfl⟩, hx.trans hx3⟩
    · have hkn : l.take k = l := List.take_of_length_le (by rw [← Hnn.out]; omega)
      rw [hkn] at Hz
      go_wp2_with fail
      go_ret2
      exact ⟨.inl ⟨zs, _, Hz.out, rfl, H6.out⟩, hx⟩
end Go.Proofs.YtmaffdhcmdhjfaaGreatDoor
