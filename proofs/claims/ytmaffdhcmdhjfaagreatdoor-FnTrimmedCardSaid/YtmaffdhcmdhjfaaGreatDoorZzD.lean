/- zzIsHash, zzUpper. -/
import Derived.Test.YtmaffdhcmdhjfaaGreatDoorZzC
namespace Go.Proofs.YtmaffdhcmdhjfaaGreatDoor
open Go.RowKit Go.Lib

theorem is_hash (s : ByteArray) (w : World) (hs : s.size ≤ 4096) :
    Calls Tryz.prog 132 #[.string s] w fun e w' => e = .returned (.bool (hashB (bytes s))) ∧ Ext w w' := by
  go_enter Tryz.func132, Tryz.ntmps132
  go_wp2_with fail
  go_at_call 76
  refine (zz_split s 35 _ hs).mono ?_
  rintro e w1 ⟨v, rfl, hst, hx⟩
  obtain ⟨g, cap, rfl, hb, hg, hcell⟩ := hst.form (splitL_pos _ _)
  have hitem := splitL_item (bytes s) 35
  rw [bytes_length] at hitem
  rcases hl : splitL (bytes s) 35 with _ | ⟨a, _ | ⟨b, _ | ⟨c, rest⟩⟩⟩
  · exact absurd hl (splitGo_ne _ _ _)
  · rw [hl] at hcell
    have hv : hashB (bytes s) = false := by simp [hashB, hl]
    have Hv := Lib.hid hv
    clear hv hl hcell hitem hst
    go_wp2
    go_ret
    exact ⟨ret_bool Hv.out.symm, hx⟩
  · rw [hl] at hcell
    have c0 := hcell 0 a rfl
    have c1 := hcell 1 b rfl
    have ha := hitem a (by rw [hl]; simp)
    have hb := hitem b (by rw [hl]; simp)
    have hv : hashB (bytes s) = (decide (0 < a.length) && (a.all isWord && digitsB b)) := by simp [hashB, hl]
    have Hv := Lib.hid hv
    clear hv hl hcell hitem hst
    go_wp2_with fail
    · go_at_call 160
      refine (zz_words _ _ (by rw [size_mk]; omega)).mono ?_
      rintro e w2 ⟨rfl, rfl⟩
      go_wp2_with fail
      · go_at_call 157
        refine (zz_digits _ _ (by rw [size_mk]; omega)).mono ?_
        rintro e w2 ⟨rfl, rfl⟩
        go_wp2_with fail
        go_ret
        refine ⟨ret_bool ?_, hx⟩
        rw [Hv.out, bytes_mk]
        simp_all [size_mk, bytes_mk]
      · go_ret
        refine ⟨ret_bool ?_, hx⟩
        rw [Hv.out]
        simp_all [size_mk, bytes_mk]
        intro h; exfalso; rename_i hh; obtain ⟨x, hx1, hx2⟩ := hh; rw [h x hx1] at hx2; cases hx2
    · go_ret
      refine ⟨ret_bool ?_, hx⟩
      rw [Hv.out]
      simp_all [size_mk, bytes_mk]
  · have hv : hashB (bytes s) = false := by simp [hashB, hl]
    have Hv := Lib.hid hv
    clear hv hl hcell hitem hst
    go_wp2
    go_ret
    exact ⟨ret_bool Hv.out.symm, hx⟩

/-- the bytes that the capitals' loop has so far -/
def upAt (l : List UInt8) (k j : Nat) : Nat := (if j < k then upC (l.getD j 0) else l.getD j 0).toNat
theorem upAt_succ (l : List UInt8) (k j : Nat) (h : j ≠ k) : upAt l (k + 1) j = upAt l k j := by
  unfold upAt
  by_cases h1 : j < k
  · rw [if_pos h1, if_pos (by omega)]
  · rw [if_neg h1, if_neg (by omega)]
theorem upAt_at (l : List UInt8) (k : Nat) : upAt l k k = (l.getD k 0).toNat := by unfold upAt; rw [if_neg (by omega)]
theorem upAt_now (l : List UInt8) (k : Nat) : upAt l (k + 1) k = (upC (l.getD k 0)).toNat := by unfold upAt; rw [if_pos (by omega)]

theorem conv_bytes (s : ByteArray) (w : World) : ∃ cap w1, (convert 9 109 (.string s)).run Tryz.prog w = .ok (.slice (some ⟨w.heap.size, 0, none⟩) s.size cap) w1 ∧ Ext w w1 ∧ w1.heap.size = w.heap.size + 1 ∧
    (∀ j, j < s.size → w1.cell? ⟨w.heap.size, j, none⟩ = some (.int .u8 ((bytes s).getD j 0).toNat)) ∧ (∀ j, j < s.size → w1.frozen? ⟨w.heap.size, j, none⟩ = false) := by
  refine ⟨_, _, run_bytes_of_string w 9 109 5 s Tryz.underlying9 Tryz.underlying109 Tryz.underlying5, (Ext.drew w).trans (Ext.alloc _ _), by simp, fun j hj => ?_, fun j hj => ?_⟩
  · have := World.cell?_alloc_mark w.drew (bytesRow s (grownCap w s.size 0 5)) 5 ((bytesRow s (grownCap w s.size 0 5)).size, (bytesRow s (grownCap w s.size 0 5)).size + 1) j
    rw [show w.drew.heap.size = w.heap.size from rfl] at this
    rw [this, bytesRow_at s _ j hj]
    unfold bytes
    rw [List.getD_eq_getElem?_getD, List.getElem?_eq_getElem (by simpa using hj)]
    simp
  · have := World.frozen?_alloc_mark w.drew (bytesRow s (grownCap w s.size 0 5)) 5 (bytesRow s (grownCap w s.size 0 5)).size ((bytesRow s (grownCap w s.size 0 5)).size + 1) j
    rw [show w.drew.heap.size = w.heap.size from rfl] at this
    rw [this]
    have hl : s.size ≤ (bytesRow s (grownCap w s.size 0 5)).size := by unfold bytesRow; simp
    rw [decide_eq_false (by omega)]; rfl

theorem conv_back (N cap : Nat) (l : List UInt8) (w : World) (h : ∀ j, j < l.length → w.cell? ⟨N, j, none⟩ = some (.int .u8 (l.getD j 0).toNat)) :
    (convert 109 9 (.slice (some ⟨N, 0, none⟩) l.length cap)).run Tryz.prog w = .ok (.string (mk l)) w := by
  refine run_convert_bytes_back w 109 9 5 ⟨N, 0, none⟩ cap l Tryz.underlying109 Tryz.underlying5 Tryz.underlying9 (fun j hj => ?_)
  have := h j hj
  rw [List.getD_eq_getElem?_getD, List.getElem?_eq_getElem hj] at this
  have ha : (⟨N, 0, none⟩ : Addr).add j = ⟨N, j, none⟩ := by unfold Addr.add; split <;> simp_all
  rw [ha]
  simpa using this

theorem upC_in (b : UInt8) (h1 : 97 ≤ b.toNat) (h2 : b.toNat ≤ 122) : ((upC b).toNat : Int) = (b.toNat : Int) - 97 + 65 := by
  unfold upC
  rw [if_pos ⟨h1, h2⟩]
  have : (UInt8.ofNat (b.toNat - 32)).toNat = b.toNat - 32 := by simp; omega
  rw [this]; omega
theorem upC_out (b : UInt8) (h : ¬ (97 ≤ b.toNat ∧ b.toNat ≤ 122)) : upC b = b := by unfold upC; rw [if_neg h]
theorem Ext.set {w wr : World} (h : Ext w wr) {N : Nat} (hN : w.heap.size ≤ N) (j : Nat) (v : Value) : Ext w (wr.setCell ⟨N, j, none⟩ v) := Below.setCell h (p := ⟨N, j, none⟩) hN v
theorem upper_keep {wr : World} {N : Nat} {s : ByteArray} {k X : Nat} (Hc : ∀ j, j < s.size → wr.cell? ⟨N, j, none⟩ = some (.int .u8 (upAt (bytes s) k j))) (hX : X = ((bytes s).getD k 0).toNat) (h : ¬ (97 ≤ X ∧ X ≤ 122)) :
    ∀ j, j < s.size → wr.cell? ⟨N, j, none⟩ = some (.int .u8 (upAt (bytes s) (k + 1) j)) := by
  intro j hj
  by_cases hjk : j = k
  · subst hjk
    rw [Hc j hj, upAt_at, upAt_now, upC_out _ (by rw [← hX]; exact h)]
  · rw [Hc j hj, upAt_succ _ _ _ hjk]
theorem upper_set {wr : World} {N : Nat} {s : ByteArray} {k X : Nat} (Hc : ∀ j, j < s.size → wr.cell? ⟨N, j, none⟩ = some (.int .u8 (upAt (bytes s) k j))) (hX : X = ((bytes s).getD k 0).toNat) (h1 : 97 ≤ X) (h2 : X ≤ 122) :
    ∀ j, j < s.size → (wr.setCell ⟨N, k, none⟩ (.int .u8 ((X : Int) - 97 + 65))).cell? ⟨N, j, none⟩ = some (.int .u8 (upAt (bytes s) (k + 1) j)) := by
  intro j hj
  by_cases hjk : j = k
  · subst hjk
    rw [World.cell?_setCell_same _ _ _ (Hc j hj), upAt_now, upC_in _ (by rw [← hX]; exact h1) (by rw [← hX]; exact h2), hX]
  · rw [World.cell?_setCell_other _ _ _ _ (by intro e; injection e with _ e; exact hjk e.symm), Hc j hj, upAt_succ _ _ _ hjk]

set_option maxHeartbeats 800000 in
set_option maxRecDepth 1000000 in
theorem zz_upper (s : ByteArray) (w : World) (hs : s.size ≤ 4096) :
    Calls Tryz.prog 170 #[.string s] w fun e w' => e = .returned (.string (mk (upperL (bytes s)))) ∧ Ext w w' := by
  obtain ⟨cap, w1, hcv, hx1, hz1, hc1, hf1⟩ := conv_bytes s w
  obtain ⟨N, hN⟩ : ∃ N, N = w.heap.size := ⟨_, rfl⟩
  rw [← hN] at hcv hz1 hc1 hf1
  have HN := Lib.hid hN
  clear hN
  go_enter Tryz.func170, Tryz.ntmps170
  go_wp2_with fail
  go_loopw [4, 5, 10] (fun _ _ i wr => ∃ k : Nat, k ≤ s.size ∧ i = .int .i64 k ∧ Ext w wr ∧ Hid (∀ j, j < s.size → wr.cell? ⟨N, j, none⟩ = some (.int .u8 (upAt (bytes s) k j))) ∧ Hid (∀ j, j < s.size → wr.frozen? ⟨N, j, none⟩ = false))
    (fun _ _ i _ => s.size - (RowKit.intOf i).toNat)
  case atStart => exact ⟨0, Nat.zero_le _, rfl, hx1, hc1, hf1⟩
  case round =>
    obtain ⟨k, hk, rfl, hx, Hc, Hf⟩ := hrel
    by_cases hlt : k < s.size
    · obtain ⟨X, hX⟩ : ∃ X, X = ((bytes s).getD k 0).toNat := ⟨_, rfl⟩
      have hck : wr.cell? ⟨N, k, none⟩ = some (.int .u8 (X : Int)) := by rw [Hc.out k hlt, upAt_at, hX]
      have hfk := Hf.out k hlt
      have HX := Lib.hid hX
      have hX2 : X < 256 := by rw [hX]; exact UInt8.toNat_lt _
      clear hX hcv
      go_wp2_with fail
      · rename_i h1 h2
        go_roundw
        case rel => exact ⟨k + 1, by omega, by go_num, hx.set (by rw [HN.out]; exact Nat.le_refl _) _ _, upper_set Hc.out HX.out (by omega) (by omega), fun j hj => by rw [World.frozen?_setCell]; exact Hf.out j hj⟩
        case measure => simp [RowKit.intOf]; omega
      all_goals
        go_roundw
        case rel => exact ⟨k + 1, by omega, by go_num, hx, upper_keep Hc.out HX.out (by omega), Hf⟩
        case measure => simp [RowKit.intOf]; omega
    · have hb : (convert 109 9 (.slice (some ⟨N, 0, none⟩) s.size cap)).run Tryz.prog wr = .ok (.string (mk (upperL (bytes s)))) wr := by
        have hlen : (upperL (bytes s)).length = s.size := by simp [upperL, bytes_length]
        have := conv_back N cap (upperL (bytes s)) wr (fun j hj => by
          have hj' : j < (bytes s).length := by rw [bytes_length, ← hlen]; exact hj
          rw [Hc.out j (by rw [← hlen]; exact hj)]
          unfold upAt upperL
          rw [if_pos (by rw [bytes_length] at hj'; omega), List.getD_eq_getElem?_getD, List.getD_eq_getElem?_getD, List.getElem?_map, List.getElem?_eq_getElem hj']
          rfl)
        rw [hlen] at this
        exact this
      clear hcv
      go_wp2
      go_ret
      exact ⟨rfl, hx⟩
end Go.Proofs.YtmaffdhcmdhjfaaGreatDoor
