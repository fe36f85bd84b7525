/- months, days, translateLiteral, normalize. -/
import Derived.Test.YtmaffdhcmdhjfaaGreatDoorZzD
namespace Go.Proofs.YtmaffdhcmdhjfaaGreatDoor
open Go.RowKit Go.Lib

theorem Strs.zero {w : World} {base : Nat} {v : Value} {l : List (List UInt8)} (h : Strs w base v l) : Strs w 0 v l := ⟨h.1, h.2.imp id fun ⟨g, cap, cur, h1, _, h3⟩ => ⟨g, cap, cur, h1, Nat.zero_le _, h3⟩⟩

theorem months_any (w : World) : Calls Tryz.prog 92 #[] w fun e w' => ∃ v, e = .returned v ∧ Strs w' w.heap.size v monthN ∧ Ext w w' := by
  go_enter Tryz.func92, Tryz.ntmps92
  go_wp2
  go_ret
  exact ⟨_, rfl, World.ownsRow_lit w (e := 9) (strs monthN).toArray 13 (Nat.le_refl _) (by decide) rfl, Ext.alloc _ _⟩

theorem days_any (w : World) : Calls Tryz.prog 94 #[] w fun e w' => ∃ v, e = .returned v ∧ Strs w' w.heap.size v dayN ∧ Ext w w' := by
  go_enter Tryz.func94, Tryz.ntmps94
  go_wp2
  go_ret
  exact ⟨_, rfl, World.ownsRow_lit w (e := 9) (strs dayN).toArray 8 (Nat.le_refl _) (by decide) rfl, Ext.alloc _ _⟩

theorem findIdx_here (names : List (List UInt8)) (u : List UInt8) (k : Nat) (h : ∀ j, j < k → names[j]? ≠ some u) (hk : names[k]? = some u) : names.findIdx? (fun n => n == u) = some k := by
  rw [List.findIdx?_eq_some_iff_getElem]
  obtain ⟨h1, h2⟩ := List.getElem?_eq_some_iff.mp hk
  refine ⟨h1, by simp [h2], fun j hj => ?_⟩
  have := h j hj
  rw [List.getElem?_eq_getElem (by omega)] at this
  simpa using this
theorem findIdx_none (names : List (List UInt8)) (u : List UInt8) (h : ∀ j, j < names.length → names[j]? ≠ some u) : names.findIdx? (fun n => n == u) = none := by
  rw [List.findIdx?_eq_none_iff]
  intro x hx
  obtain ⟨j, hj, rfl⟩ := List.mem_iff_getElem.mp hx
  have := h j hj
  rw [List.getElem?_eq_getElem hj] at this
  simpa using this

set_option maxHeartbeats 800000 in
theorem translate_any (v : Value) (names : List (List UInt8)) (s : ByteArray) (w : World) (hs : s.size ≤ 4096) (hn : names.length ≤ 13) (hE : Env w) (hv : Strs w 0 v names) :
    Calls Tryz.prog 156 #[v, .string s] w fun e w' => ((∃ n, translateO names (bytes s) = some n ∧ e = .returned (.tuple #[.int .i64 n, .nilIface])) ∨
      (translateO names (bytes s) = none ∧ ∃ n t p, e = .returned (.tuple #[.int .i64 n, .iface t p]))) ∧ Ext w w' := by
  obtain ⟨a, cap, rfl⟩ := own_any hv
  obtain ⟨n, hnn⟩ : ∃ n, n = names.length := ⟨_, rfl⟩
  have hcell : 0 < n → ∃ g, a = some ⟨g, 0, none⟩ ∧ ∀ (j : Nat) (x : List UInt8), names[j]? = some x → w.cell? ⟨g, j, none⟩ = some (.string (mk x)) := by
    intro h
    obtain ⟨g, cap', he, _, _, hc⟩ := hv.form (by omega)
    injection he with he1
    exact ⟨g, he1, hc⟩
  rw [← hnn]
  have Hnn := Lib.hid hnn
  have hn' : n ≤ 13 := by omega
  clear hv hnn hn
  go_enter Tryz.func156, Tryz.ntmps156
  go_wp2_with fail
  go_at_call 170
  refine (zz_upper s _ hs).mono ?_
  rintro e w1 ⟨rfl, hx1⟩
  go_wp2_with fail
  go_loop [7, 8, 13] (fun _ _ i => ∃ k : Nat, k ≤ n ∧ i = .int .i64 k ∧ Hid (∀ j, j < k → names[j]? ≠ some (upperL (bytes s)))) (fun _ _ i => n - (RowKit.intOf i).toNat)
  case atStart => exact ⟨0, Nat.zero_le _, rfl, fun j hj => by omega⟩
  case round =>
    obtain ⟨k, hk, rfl, Hk⟩ := hrel
    by_cases hlt : k < n
    · obtain ⟨g, rfl, hc⟩ := hcell (by omega)
      obtain ⟨x, hx⟩ : ∃ x, names[k]? = some x := ⟨_, List.getElem?_eq_getElem (by rw [← Hnn.out]; exact hlt)⟩
      have hck := hx1.cell (hc k x hx)
      have Hx := Lib.hid hx
      clear hx hc hcell
      by_cases he : x = upperL (bytes s)
      · have hb : ((mk x).toList == (mk (upperL (bytes s))).toList) = true := by rw [he]; simp
        have hr : translateO names (bytes s) = some (k : Int) := by unfold translateO; rw [findIdx_here _ _ k Hk.out (by rw [Hx.out, he])]; rfl
        have Hr := Lib.hid hr
        clear hr he
        go_wp2_with fail
        go_ret2
        exact ⟨.inl ⟨_, Hr.out, rfl⟩, hx1⟩
      · have hb : ((mk x).toList == (mk (upperL (bytes s))).toList) = false := by
          rw [toList_bytes, toList_bytes, bytes_mk, bytes_mk, beq_eq_false_iff_ne]; exact he
        have He := Lib.hid he
        clear he
        go_wp2_with fail
        go_round
        case rel => exact ⟨k + 1, by omega, by go_num, fun j hj => by
          by_cases hjk : j = k
          · subst hjk; rw [Hx.out]; intro e; injection e with e; exact He.out e
          · exact Hk.out j (by omega)⟩
        case measure => simp [RowKit.intOf]; omega
    · have hr : translateO names (bytes s) = none := by unfold translateO; rw [findIdx_none _ _ (fun j hj => Hk.out j (by rw [← Hnn.out] at hj; omega))]; rfl
      have Hr := Lib.hid hr
      clear hr
      go_wp2_with fail
      go_at_call 77
      refine (new_err _ _ (hE.ext hx1)).mono ?_
      rintro e w2 ⟨t, p, rfl, hx2⟩
      go_wp2_with fail
      go_ret2
      exact ⟨.inr ⟨Hr.out, _, t, p, rfl⟩, hx1.trans hx2⟩

def normalizeO (names : List (List UInt8)) (l : List UInt8) : Option Int := match atoiO l with
  | some v => some v
  | none => translateO names l

set_option maxHeartbeats 800000 in
theorem normalize_any (v : Value) (names : List (List UInt8)) (s : ByteArray) (w : World) (hs : s.size ≤ 4096) (hn : names.length ≤ 13) (hE : Env w) (hv : Strs w 0 v names) :
    Calls Tryz.prog 123 #[.string s, v] w fun e w' => ((∃ n, normalizeO names (bytes s) = some n ∧ e = .returned (.tuple #[.int .i64 n, .nilIface])) ∨
      (normalizeO names (bytes s) = none ∧ ∃ n t p, e = .returned (.tuple #[.int .i64 n, .iface t p]))) ∧ Ext w w' := by
  obtain ⟨a, cap, rfl⟩ := own_any hv
  have Hv := Lib.hid hv
  clear hv
  go_enter Tryz.func123, Tryz.ntmps123
  go_wp2_with fail
  go_at_call 128
  refine (atoi_any s _ hs hE).mono ?_
  rintro e w1 ⟨⟨n, hn1, rfl⟩ | ⟨hn1, n, t, p, rfl⟩, hx1⟩
  · have hr : normalizeO names (bytes s) = some n := by simp [normalizeO, hn1]
    go_wp2_with fail
    go_ret2
    exact ⟨.inl ⟨_, hr, rfl⟩, hx1⟩
  · have hr : normalizeO names (bytes s) = translateO names (bytes s) := by simp [normalizeO, hn1]
    go_wp2_with fail
    go_at_call 156
    refine (translate_any _ names s _ hs hn (hE.ext hx1) (Hv.out.ext hx1)).mono ?_
    rintro e w2 ⟨⟨n, hn2, rfl⟩ | ⟨hn2, n, t, p, rfl⟩, hx2⟩
    · go_wp2_with fail
      go_ret2
      exact ⟨.inl ⟨_, hr.trans hn2, rfl⟩, hx1.trans hx2⟩
    · go_wp2_with fail
      go_ret2
      exact ⟨.inr ⟨hr.trans hn2, _, _, _, rfl⟩, hx1.trans hx2⟩
end Go.Proofs.YtmaffdhcmdhjfaaGreatDoor
