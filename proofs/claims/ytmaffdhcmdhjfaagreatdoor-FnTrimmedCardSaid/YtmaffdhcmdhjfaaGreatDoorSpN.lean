/- spec.Spaced; its plain law. -/
import Derived.Test.YtmaffdhcmdhjfaaGreatDoorSpM
namespace Go.Proofs.YtmaffdhcmdhjfaaGreatDoor
open Go.RowKit Go.Lib
attribute [local go_sem ↓] execOp_loadCron

set_option maxHeartbeats 3200000 in
set_option maxRecDepth 1000000 in
theorem spaced_cron (c : CronV) (hO : CronOk c) (ga : Option Addr) (cap : Nat) (gs : List Int) (hG : GapsIn gs) (w : World) (hI : CronItems w c) (hN : NumsAt w ga gs) (hE : Env w) (hl : c.text.length ≤ 120) :
    Calls Tryz.prog 20 #[.agg c.cells, .slice ga gs.length cap] w fun e w' => e = .returned (.string (mk (spacedL gs c.text))) ∧ Ext w w' := by
  have HC : Hid (CronAt (w.alloc (.cells c.cells 27)) w.heap.size c) := cron_alloc w c
  have HX : Hid (Ext w (w.alloc (.cells c.cells 27))) := Ext.alloc _ _
  have hld := HC.out.whole
  have HT : Hid (∀ W, Ext w W → Calls Tryz.prog 14 #[.agg c.cells] W fun e w' => e = .returned (.string (mk c.text)) ∧ Ext W w') := fun W hW => text_cron c hO W (hI.ext hW) (hE.ext hW)
  obtain ⟨n, hn⟩ : ∃ n, n = gs.length := ⟨_, rfl⟩
  have hnb : n ≤ 20 := by rw [hn]; exact hG.len
  have HGP : Hid (∀ W (k : Nat), k ≤ 100000 → Ext w W → Calls Tryz.prog 43 #[.slice ga n cap, .int .i64 k] W fun e w' => e = .returned (.string (mk (gapL gs k))) ∧ Ext W w') := fun W k hk hW => by
    rw [hn]; exact gap_any ga cap gs hG k hk W (hN.ext hW)
  rw [← hn]
  obtain ⟨t, ht⟩ : ∃ t, t = mk c.text := ⟨_, rfl⟩
  have htl : t.size ≤ 120 := by rw [ht, size_mk]; exact hl
  have HTB : Hid (bytes t = c.text) := by show _ = _; rw [ht, bytes_mk]
  rw [← ht] at HT
  clear ht hn hI hN hO hG hl
  go_enter Tryz.func20, Tryz.ntmps20
  go_wp2_with fail
  go_at_call 14
  refine (HT.out _ HX.out).mono ?_
  rintro e w1 ⟨rfl, x1⟩
  have X1 := Lib.hid (HX.out.trans x1)
  clear x1 hld
  go_wp2_with fail
  go_at_call 43
  refine (HGP.out _ 0 (by omega) X1.out).mono ?_
  rintro e w2 ⟨rfl, x2⟩
  have X2 := Lib.hid (X1.out.trans x2)
  clear x2
  obtain ⟨g0, hg0⟩ : ∃ g0, g0 = mk (gapL gs 0) := ⟨_, rfl⟩
  have hg0l : g0.size ≤ 3 := by rw [hg0, size_mk]; exact gapL_len gs 0
  have HG0 := Lib.hid hg0
  rw [← hg0]
  clear hg0
  go_wp2_with fail
  go_loopw [6, 7, 8, 9] (fun o kk i _ wr => ∃ (j k : Nat) (O : ByteArray), j ≤ t.size ∧ i = .int .i64 j ∧ kk = .int .i64 k ∧ o = .string O ∧ k ≤ j + 1 ∧ O.size ≤ 3 + 3 * j ∧ Hid ((bytes O, k) = spaceGo gs ((bytes t).take j)) ∧ Hid (Ext w wr))
    (fun _ _ i _ _ => t.size - (RowKit.intOf i).toNat)
  case atStart => exact ⟨0, 1, g0, Nat.zero_le _, rfl, rfl, rfl, by omega, by omega, by show _ = _; rw [HG0.out, bytes_mk]; rfl, X2.out⟩
  case round =>
    obtain ⟨j, k, O, hj, rfl, rfl, rfl, hk, hO, HS, Hx⟩ := hrel
    by_cases hlt : j < t.size
    · have HTS : Hid ((bytes t).take (j + 1) = (bytes t).take j ++ [t[j]]) := take_snoc t j hlt
      by_cases hsp : t[j] = 32
      · have h1 : ((t[j].toNat : Int) == 32) = true := by rw [hsp]; rfl
        have h2 : ((t[j].toNat : Int) != 32) = false := by rw [hsp]; rfl
        have HSP := Lib.hid hsp
        clear hsp
        go_wp2_with fail
        go_at_call 43
        refine (HGP.out _ k (by omega) Hx.out).mono ?_
        rintro e w3 ⟨rfl, x3⟩
        have X3 := Lib.hid (Hx.out.trans x3)
        clear x3
        have hgl := gapL_len gs k
        by_cases he : gapL gs k = []
        · have HGN : Hid (gapN gs k = [32]) := by show _ = _; unfold gapN; rw [if_pos he]
          obtain ⟨G, hGe⟩ : ∃ G, G = mk (gapL gs k) := ⟨_, rfl⟩
          have hGs : G.size ≤ 3 := by rw [hGe, size_mk]; exact hgl
          have hne : G.toList.isEmpty = true := by rw [toList_bytes, hGe, bytes_mk, he]; rfl
          rw [← hGe]
          clear he hgl hGe
          go_wp2_with fail
          go_roundw
          case rel => exact ⟨j + 1, k + 1, _, by omega, by go_num, by go_num, rfl, by omega, by rw [ByteArray.size_append]; show O.size + 1 ≤ _; omega, by
            show _ = _
            rw [HTS.out, spaceGo_snoc, ← HS.out, HSP.out]
            unfold spaceStep
            rw [if_pos rfl, HGN.out]
            congr 1 <;> simp [bytes], X3⟩
          case measure => simp [RowKit.intOf]; omega
        · obtain ⟨G, hGe⟩ : ∃ G, G = mk (gapL gs k) := ⟨_, rfl⟩
          have hGs : G.size ≤ 3 := by rw [hGe, size_mk]; exact hgl
          have hne : G.toList.isEmpty = false := by rw [toList_bytes, hGe, bytes_mk]; cases hq : gapL gs k with
            | nil => exact absurd hq he
            | cons _ _ => rfl
          have HGB : Hid (bytes G = gapN gs k) := by show _ = _; rw [hGe, bytes_mk]; unfold gapN; rw [if_neg he]
          rw [← hGe]
          clear he hgl hGe
          go_wp2_with fail
          go_roundw
          case rel => exact ⟨j + 1, k + 1, _, by omega, by go_num, by go_num, rfl, by omega, by rw [ByteArray.size_append]; omega, by
            show _ = _
            rw [HTS.out, spaceGo_snoc, ← HS.out, HSP.out]
            unfold spaceStep
            rw [if_pos rfl, ← HGB.out]
            congr 1 <;> simp [bytes], X3⟩
          case measure => simp [RowKit.intOf]; omega
      · have h1 : ((t[j].toNat : Int) == 32) = false := by
          rw [beq_eq_false_iff_ne]; intro h; exact hsp (UInt8.toNat.inj (by have : (32 : UInt8).toNat = 32 := rfl; omega))
        have h2 : ((t[j].toNat : Int) != 32) = true := by rw [bne, h1]; rfl
        have HSP := Lib.hid hsp
        have HEX : Hid (bytes (t.extract j (j + 1)) = [t[j]]) := by
          show _ = _
          rw [bytes_extract, take_snoc t j hlt, List.drop_append_of_le_length (by simp [bytes]; omega)]
          rw [List.drop_of_length_le (by simp [bytes]; omega)]
          rfl
        clear hsp
        go_wp2_with fail
        go_roundw
        case rel => exact ⟨j + 1, k, _, by omega, by go_num, rfl, rfl, by omega, by rw [ByteArray.size_append, ByteArray.size_extract]; omega, by
          show _ = _
          rw [HTS.out, spaceGo_snoc, ← HS.out]
          unfold spaceStep
          rw [if_neg HSP.out, ← HEX.out]
          congr 1 <;> simp [bytes], Hx⟩
        case measure => simp [RowKit.intOf]; omega
    · have HJ : Hid ((bytes O, k) = spaceGo gs c.text) := by
        show _ = _
        rw [HS.out, take_all t j (by omega), HTB.out]
      go_wp2_with fail
      go_at_call 43
      refine (HGP.out _ k (by omega) Hx.out).mono ?_
      rintro e w3 ⟨rfl, x3⟩
      have X3 := Lib.hid (Hx.out.trans x3)
      clear x3
      obtain ⟨G, hGe⟩ : ∃ G, G = mk (gapL gs k) := ⟨_, rfl⟩
      have hGs : G.size ≤ 3 := by rw [hGe, size_mk]; exact gapL_len gs k
      have HGE := Lib.hid hGe
      rw [← hGe]
      clear hGe
      go_wp2_with fail
      go_ret
      refine ⟨ret_str ?_, X3.out⟩
      refine mk_eq _ _ ?_
      unfold spacedL
      rw [← HJ.out, HGE.out]
      simp [bytes, mk]
end Go.Proofs.YtmaffdhcmdhjfaaGreatDoor
