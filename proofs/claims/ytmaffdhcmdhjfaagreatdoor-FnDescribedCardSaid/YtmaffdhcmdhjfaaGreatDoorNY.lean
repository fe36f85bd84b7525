/- spec.gap, Spaced. spec.Spaced; its plain law. The plain law of white space of one's own. A slice of numbers that came in, opened. -/
import Derived.Test.YtmaffdhcmdhjfaaGreatDoorNG
import Derived.Test.YtmaffdhcmdhjfaaGreatDoorNK
set_option linter.unusedSimpArgs false
set_option linter.unusedVariables false
namespace Go.Proofs.YtmaffdhcmdhjfaaGreatDoor
open Go.RowKit Go.Lib
def gapTab : List (List UInt8) := [[], [32], [32, 32], [9], [32, 10], [13, 10, 32], [12]]
def gapL (gs : List Int) (k : Nat) : List UInt8 := match gs[k]? with
 | none => []
 | some g => gapTab.getD (g % 7).toNat []
theorem gapL_len (gs : List Int) (k : Nat) : (gapL gs k).length ≤ 3 := by
 unfold gapL
 split
 ·simp
 ·rename_i g _
  have : (g % 7).toNat = 0 ∨ (g % 7).toNat = 1 ∨ (g % 7).toNat = 2 ∨ (g % 7).toNat = 3 ∨ (g % 7).toNat = 4 ∨ (g % 7).toNat = 5 ∨ (g % 7).toNat = 6 := by omega
  rcases this with h | h | h | h | h | h | h <;> rw [h] <;> decide
theorem gapL_ws (gs : List Int) (k : Nat) : GapC (gapL gs k) := by
 unfold gapL
 split
 ·intro c hc; simp at hc
 ·rename_i g _
  have : (g % 7).toNat = 0 ∨ (g % 7).toNat = 1 ∨ (g % 7).toNat = 2 ∨ (g % 7).toNat = 3 ∨ (g % 7).toNat = 4 ∨ (g % 7).toNat = 5 ∨ (g % 7).toNat = 6 := by omega
  rcases this with h | h | h | h | h | h | h <;> rw [h] <;> unfold GapC <;> decide
def NumsAt (W : World) (a : Option Addr) (gs : List Int) : Prop :=
 gs ≠ [] → ∃ b o, a = some ⟨b, o, none⟩ ∧ ∀ (j : Nat) (z : Int), gs[j]? = some z → W.cell? ⟨b, o + j, none⟩ = some (.int .i64 z)
theorem NumsAt.ext {W W' : World} {a : Option Addr} {gs : List Int} (h : NumsAt W a gs) (x : Ext W W') : NumsAt W' a gs := by
 intro hne
 obtain ⟨b, o, ha, hc⟩ := h hne
 exact ⟨b, o, ha, fun j z hj => x.cell (hc j z hj)⟩
structure GapsIn (gs : List Int) : Prop where
 len : gs.length ≤ 20
 num : ∀ z ∈ gs, 0 ≤ z ∧ z ≤ 9223372036854775807
set_option maxHeartbeats 1600000 in
set_option maxRecDepth 1000000 in
theorem gap_any (ga : Option Addr) (cap : Nat) (gs : List Int) (hG : GapsIn gs) (k : Nat) (hk : k ≤ 100000) (w : World) (hN : NumsAt w ga gs) :
 Calls Tryz.prog 43 #[.slice ga gs.length cap, .int .i64 k] w fun e w' => e = .returned (.string (mk (gapL gs k))) ∧ Ext w w' := by
 obtain ⟨n, hn⟩ : ∃ n, n = gs.length := ⟨_, rfl⟩
 have hnb : n ≤ 20 := by rw [hn]; exact hG.len
 have HN := Lib.hid hn
 have HNN := Lib.hid hN
 rw [← hn]
 clear hn hN
 by_cases hkn : n ≤ k
 ·have HR : Hid (gapL gs k = []) := by
   show _ = _
   unfold gapL
   rw [List.getElem?_eq_none (by rw [← HN.out]; exact hkn)]
  go_enter Tryz.func43, Tryz.ntmps43
  go_wp2_with fail
  go_ret
  exact ⟨by rw [HR.out]; rfl, Ext.refl _⟩
 ·obtain ⟨z, hz⟩ : ∃ z, gs[k]? = some z := ⟨_, List.getElem?_eq_getElem (by have := HN.out; omega)⟩
  obtain ⟨b, o, rfl, hc⟩ := HNN.out (by intro e; rw [e] at hz; simp at hz)
  have hck := hc k z hz
  have hzb := hG.num z (List.mem_of_getElem? hz)
  have HR : Hid (gapL gs k = gapTab.getD (z % 7).toNat []) := by
   show _ = _
   unfold gapL
   rw [hz]
  have hz0 : 0 ≤ z := hzb.1
  have hX := Ext.alloc w (.cells #[.string ⟨#[]⟩, .string ⟨#[32]⟩, .string ⟨#[32, 32]⟩, .string ⟨#[9]⟩, .string ⟨#[32, 10]⟩, .string ⟨#[13, 10, 32]⟩, .string ⟨#[12]⟩] 9)
  have hck2 := hX.cell hck
  have HX := Lib.hid hX
  have h7 : z % 7 = 0 ∨ z % 7 = 1 ∨ z % 7 = 2 ∨ z % 7 = 3 ∨ z % 7 = 4 ∨ z % 7 = 5 ∨ z % 7 = 6 := by omega
  clear hc hz hX hzb
  rcases h7 with h7 | h7 | h7 | h7 | h7 | h7 | h7
  all_goals
   rw [h7] at HR
   go_enter Tryz.func43, Tryz.ntmps43
   go_wp2_with fail
   go_ret
   exact ⟨by rw [HR.out]; rfl, HX.out⟩
def gapN (gs : List Int) (k : Nat) : List UInt8 := if gapL gs k = [] then [32] else gapL gs k
theorem gapN_len (gs : List Int) (k : Nat) : (gapN gs k).length ≤ 3 := by
 unfold gapN
 split
 ·simp
 ·exact gapL_len gs k
def spaceStep (gs : List Int) (st : List UInt8 × Nat) (c : UInt8) : List UInt8 × Nat := if c = 32 then (st.1 ++ gapN gs st.2, st.2 + 1) else (st.1 ++ [c], st.2)
def spaceGo (gs : List Int) (t : List UInt8) : List UInt8 × Nat := t.foldl (spaceStep gs) (gapL gs 0, 1)
def spacedL (gs : List Int) (t : List UInt8) : List UInt8 := (spaceGo gs t).1 ++ gapL gs (spaceGo gs t).2
theorem spaceGo_snoc (gs : List Int) (t : List UInt8) (c : UInt8) : spaceGo gs (t ++ [c]) = spaceStep gs (spaceGo gs t) c := by unfold spaceGo; rw [List.foldl_append]; rfl
theorem spaceGo_bd (gs : List Int) (t : List UInt8) : (spaceGo gs t).1.length ≤ 3 + 3 * t.length ∧ (spaceGo gs t).2 ≤ t.length + 1 := by
 have key : ∀ (t : List UInt8) (st : List UInt8 × Nat), (t.foldl (spaceStep gs) st).1.length ≤ st.1.length + 3 * t.length ∧ (t.foldl (spaceStep gs) st).2 ≤ st.2 + t.length := by
  intro t
  induction t with
  | nil => intro st; simp
  | cons c r ih =>
    intro st
    have h := ih (spaceStep gs st c)
    have hs : (spaceStep gs st c).1.length ≤ st.1.length + 3 ∧ (spaceStep gs st c).2 ≤ st.2 + 1 := by
     unfold spaceStep
     split
     ·have := gapN_len gs st.2; simp; omega
     ·simp
    rw [List.foldl_cons, List.length_cons]
    omega
 have := key t (gapL gs 0, 1)
 have h3 := gapL_len gs 0
 unfold spaceGo
 simp only at this
 omega
end Go.Proofs.YtmaffdhcmdhjfaaGreatDoor
namespace Go.Proofs.YtmaffdhcmdhjfaaGreatDoor
open Go.RowKit Go.Lib
attribute [local go_sem ↓] execOp_loadCron
set_option maxHeartbeats 3200000 in
set_option maxRecDepth 1000000 in
theorem spaced_cron (c : CronV) (hO : CronOk c) (ga : Option Addr) (cap : Nat) (gs : List Int) (hG : GapsIn gs) (w : World) (hI : CronItems w c) (hN : NumsAt w ga gs) (hE : Env w) (hl : c.text.length ≤ 120) :
 Calls Tryz.prog 20 #[.agg c.cells, .slice ga gs.length cap] w fun e w' => e = .returned (.string (mk (spacedL gs c.text))) ∧ Ext w w' := by
 have HC : Hid (CronAt (w.alloc (.cells c.cells 27)) w.heap.size c) := cron_alloc w c
 have HX : Hid (Ext w (w.alloc (.cells c.cells 27))) := Ext.alloc _ _
 have hld := HC.out.whole
 have HT : Hid (∀ W, Ext w W → Calls Tryz.prog 14 #[.agg c.cells] W fun e w' => e = .returned (.string (mk c.text)) ∧ Ext W w') := fun W hW => text_cron c hO W (hI.ext hW) (hE.ext hW)
 obtain ⟨n, hn⟩ : ∃ n, n = gs.length := ⟨_, rfl⟩
 have hnb : n ≤ 20 := by rw [hn]; exact hG.len
 have HGP : Hid (∀ W (k : Nat), k ≤ 100000 → Ext w W → Calls Tryz.prog 43 #[.slice ga n cap, .int .i64 k] W fun e w' => e = .returned (.string (mk (gapL gs k))) ∧ Ext W w') := fun W k hk hW => by
  rw [hn]; exact gap_any ga cap gs hG k hk W (hN.ext hW)
 rw [← hn]
 obtain ⟨t, ht⟩ : ∃ t, t = mk c.text := ⟨_, rfl⟩
 have htl : t.size ≤ 120 := by rw [ht, size_mk]; exact hl
 have HTB : Hid (bytes t = c.text) := by show _ = _; rw [ht, bytes_mk]
 rw [← ht] at HT
 clear ht hn hI hN hO hG hl
 go_enter Tryz.func20, Tryz.ntmps20
 go_wp2_with fail
 go_at_call 14
 refine (HT.out _ HX.out).mono ?_
 rintro e w1 ⟨rfl, x1⟩
 have X1 := Lib.hid (HX.out.trans x1)
 clear x1 hld
 go_wp2_with fail
 go_at_call 43
 refine (HGP.out _ 0 (by omega) X1.out).mono ?_
 rintro e w2 ⟨rfl, x2⟩
 have X2 := Lib.hid (X1.out.trans x2)
 clear x2
 obtain ⟨g0, hg0⟩ : ∃ g0, g0 = mk (gapL gs 0) := ⟨_, rfl⟩
 have hg0l : g0.size ≤ 3 := by rw [hg0, size_mk]; exact gapL_len gs 0
 have HG0 := Lib.hid hg0
 rw [← hg0]
 clear hg0
 go_wp2_with fail
 go_loopw [6, 7, 8, 9] (fun o kk i _ wr => ∃ (j k : Nat) (O : ByteArray), j ≤ t.size ∧ i = .int .i64 j ∧ kk = .int .i64 k ∧ o = .string O ∧ k ≤ j + 1 ∧ O.size ≤ 3 + 3 * j ∧ Hid ((bytes O, k) = spaceGo gs ((bytes t).take j)) ∧ Hid (Ext w wr))
  (fun _ _ i _ _ => t.size - (RowKit.intOf i).toNat)
 case atStart => exact ⟨0, 1, g0, Nat.zero_le _, rfl, rfl, rfl, by omega, by omega, by show _ = _; rw [HG0.out, bytes_mk]; rfl, X2.out⟩
 case round =>
  obtain ⟨j, k, O, hj, rfl, rfl, rfl, hk, hO, HS, Hx⟩ := hrel
  by_cases hlt : j < t.size
  ·have HTS : Hid ((bytes t).take (j + 1) = (bytes t).take j ++ [t[j]]) := take_snoc t j hlt
   by_cases hsp : t[j] = 32
   ·have h1 : ((t[j].toNat : Int) == 32) = true := by rw [hsp]; rfl
    have h2 : ((t[j].toNat : Int) != 32) = false := by rw [hsp]; rfl
    have HSP := Lib.hid hsp
    clear hsp
    go_wp2_with fail
    go_at_call 43
    refine (HGP.out _ k (by omega) Hx.out).mono ?_
    rintro e w3 ⟨rfl, x3⟩
    have X3 := Lib.hid (Hx.out.trans x3)
    clear x3
    have hgl := gapL_len gs k
    by_cases he : gapL gs k = []
    ·have HGN : Hid (gapN gs k = [32]) := by show _ = _; unfold gapN; rw [if_pos he]
     obtain ⟨G, hGe⟩ : ∃ G, G = mk (gapL gs k) := ⟨_, rfl⟩
     have hGs : G.size ≤ 3 := by rw [hGe, size_mk]; exact hgl
     have hne : G.toList.isEmpty = true := by rw [toList_bytes, hGe, bytes_mk, he]; rfl
     rw [← hGe]
     clear he hgl hGe
     go_wp2_with fail
     go_roundw
     case rel => exact ⟨j + 1, k + 1, _, by omega, by go_num, by go_num, rfl, by omega, by rw [ByteArray.size_append]; show O.size + 1 ≤ _; omega, by
      show _ = _
      rw [HTS.out, spaceGo_snoc, ← HS.out, HSP.out]
      unfold spaceStep
      rw [if_pos rfl, HGN.out]
      congr 1 <;> simp [bytes], X3⟩
     case measure => simp [RowKit.intOf]; omega
    ·obtain ⟨G, hGe⟩ : ∃ G, G = mk (gapL gs k) := ⟨_, rfl⟩
     have hGs : G.size ≤ 3 := by rw [hGe, size_mk]; exact hgl
     have hne : G.toList.isEmpty = false := by rw [toList_bytes, hGe, bytes_mk]; cases hq : gapL gs k with
      | nil => exact absurd hq he
      | cons _ _ => rfl
     have HGB : Hid (bytes G = gapN gs k) := by show _ = _; rw [hGe, bytes_mk]; unfold gapN; rw [if_neg he]
     rw [← hGe]
     clear he hgl hGe
     go_wp2_with fail
     go_roundw
     case rel => exact ⟨j + 1, k + 1, _, by omega, by go_num, by go_num, rfl, by omega, by rw [ByteArray.size_append]; omega, by
      show _ = _
      rw [HTS.out, spaceGo_snoc, ← HS.out, HSP.out]
      unfold spaceStep
      rw [if_pos rfl, ← HGB.out]
      congr 1 <;> simp [bytes], X3⟩
     case measure => simp [RowKit.intOf]; omega
   ·have h1 : ((t[j].toNat : Int) == 32) = false := by
     rw [beq_eq_false_iff_ne]; intro h; exact hsp (UInt8.toNat.inj (by have : (32 : UInt8).toNat = 32 := rfl; omega))
    have h2 : ((t[j].toNat : Int) != 32) = true := by rw [bne, h1]; rfl
    have HSP := Lib.hid hsp
    have HEX : Hid (bytes (t.extract j (j + 1)) = [t[j]]) := by
     show _ = _
     rw [bytes_extract, take_snoc t j hlt, List.drop_append_of_le_length (by simp [bytes]; omega)]
     rw [List.drop_of_length_le (by simp [bytes]; omega)]
     rfl
    clear hsp
    go_wp2_with fail
    go_roundw
    case rel => exact ⟨j + 1, k, _, by omega, by go_num, rfl, rfl, by omega, by rw [ByteArray.size_append, ByteArray.size_extract]; omega, by
     show _ = _
     rw [HTS.out, spaceGo_snoc, ← HS.out]
     unfold spaceStep
     rw [if_neg HSP.out, ← HEX.out]
     congr 1 <;> simp [bytes], Hx⟩
    case measure => simp [RowKit.intOf]; omega
  ·have HJ : Hid ((bytes O, k) = spaceGo gs c.text) := by
    show _ = _
    rw [HS.out, take_all t j (by omega), HTB.out]
   go_wp2_with fail
   go_at_call 43
   refine (HGP.out _ k (by omega) Hx.out).mono ?_
   rintro e w3 ⟨rfl, x3⟩
   have X3 := Lib.hid (Hx.out.trans x3)
   clear x3
   obtain ⟨G, hGe⟩ : ∃ G, G = mk (gapL gs k) := ⟨_, rfl⟩
   have hGs : G.size ≤ 3 := by rw [hGe, size_mk]; exact gapL_len gs k
   have HGE := Lib.hid hGe
   rw [← hGe]
   clear hGe
   go_wp2_with fail
   go_ret
   refine ⟨ret_str ?_, X3.out⟩
   refine mk_eq _ _ ?_
   unfold spacedL
   rw [← HJ.out, HGE.out]
   simp [bytes, mk]
end Go.Proofs.YtmaffdhcmdhjfaaGreatDoor
namespace Go.Proofs.YtmaffdhcmdhjfaaGreatDoor
open Go.RowKit Go.Lib
def gapsFor (gs : List Int) : Nat → List (List UInt8) → List (List UInt8 × List UInt8)
 | _, [] => []
 | k, x :: r => (gapN gs k, x) :: gapsFor gs (k + 1) r
theorem gapsFor_snd (gs : List Int) : ∀ (xs : List (List UInt8)) (k : Nat), (gapsFor gs k xs).map (·.2) = xs
 | [], _ => rfl
 | x :: r, k => by simp [gapsFor, gapsFor_snd gs r (k + 1)]
theorem gapN_ok (gs : List Int) (k : Nat) : GapC (gapN gs k) ∧ gapN gs k ≠ [] := by
 unfold gapN
 split
 ·exact ⟨by intro c hc; simp at hc; subst hc; decide, by simp⟩
 ·rename_i h; exact ⟨gapL_ws gs k, h⟩
theorem gapsFor_ok (gs : List Int) : ∀ (xs : List (List UInt8)) (k : Nat), (∀ x ∈ xs, WordC x) → ∀ p ∈ gapsFor gs k xs, GapC p.1 ∧ p.1 ≠ [] ∧ WordC p.2
 | [], _, _, p, hp => by simp [gapsFor] at hp
 | x :: r, k, h, p, hp => by
   simp only [gapsFor, List.mem_cons] at hp
   rcases hp with rfl | hp
   ·exact ⟨(gapN_ok gs k).1, (gapN_ok gs k).2, h x (by simp)⟩
   ·exact gapsFor_ok gs r (k + 1) (fun y hy => h y (by simp [hy])) p hp
theorem word_no32 {x : List UInt8} (h : WordC x) : ∀ c ∈ x, c ≠ 32 := by
 intro c hc e
 have := h.ws c hc
 rw [e] at this
 revert this; decide
theorem fold_noblank (gs : List Int) : ∀ (x o : List UInt8) (k : Nat), (∀ c ∈ x, c ≠ 32) → x.foldl (spaceStep gs) (o, k) = (o ++ x, k)
 | [], o, k, _ => by simp
 | c :: r, o, k, h => by
   have e : spaceStep gs (o, k) c = (o ++ [c], k) := by unfold spaceStep; rw [if_neg (h c (by simp))]
   rw [List.foldl_cons, e, fold_noblank gs r _ k (fun d hd => h d (by simp [hd]))]
   simp
theorem fold_tails (gs : List Int) : ∀ (xs : List (List UInt8)) (o : List UInt8) (k : Nat), (∀ x ∈ xs, WordC x) →
 (tails xs).foldl (spaceStep gs) (o, k) = (o ++ spread (gapsFor gs k xs), k + xs.length)
 | [], o, k, _ => by simp [tails, gapsFor, spread]
 | x :: r, o, k, h => by
   have e : tails (x :: r) = 32 :: (x ++ tails r) := by simp [tails]
   have e2 : spaceStep gs (o, k) 32 = (o ++ gapN gs k, k + 1) := by unfold spaceStep; rw [if_pos rfl]
   rw [e, List.foldl_cons, e2, List.foldl_append, fold_noblank gs x _ _ (word_no32 (h x (by simp))), fold_tails gs r _ _ (fun y hy => h y (by simp [hy]))]
   simp only [gapsFor, spread, List.length_cons, List.append_assoc]
   congr 1
   omega
theorem spaced_eq (gs : List Int) (x0 : List UInt8) (xs : List (List UInt8)) (h : ∀ x ∈ x0 :: xs, WordC x) :
 spacedL gs (joinL 32 (x0 :: xs)) = gapL gs 0 ++ (x0 ++ (spread (gapsFor gs 1 xs) ++ gapL gs (1 + xs.length))) := by
 have key : spaceGo gs (joinL 32 (x0 :: xs)) = (gapL gs 0 ++ x0 ++ spread (gapsFor gs 1 xs), 1 + xs.length) := by
  unfold spaceGo
  rw [joinL_tails, List.foldl_append, fold_noblank gs x0 _ _ (word_no32 (h x0 (by simp))), fold_tails gs xs _ _ (fun y hy => h y (by simp [hy]))]
 unfold spacedL
 rw [key]
 simp
theorem spread_chars : ∀ (r : List (List UInt8 × List UInt8)) (d : UInt8), d ∈ spread r → (∃ p ∈ r, d ∈ p.1) ∨ (∃ p ∈ r, d ∈ p.2)
 | [], d, h => by simp [spread] at h
 | (g, x) :: r, d, h => by
  simp only [spread, List.mem_append] at h
  rcases h with h | h | h
  ·exact .inl ⟨(g, x), by simp, h⟩
  ·exact .inr ⟨(g, x), by simp, h⟩
  ·rcases spread_chars r d h with ⟨p, hp, hd⟩ | ⟨p, hp, hd⟩
   ·exact .inl ⟨p, by simp [hp], hd⟩
   ·exact .inr ⟨p, by simp [hp], hd⟩
theorem ws_ascii {c : UInt8} (h : isWs c = true) : c.toNat ≤ 127 := by
 unfold isWs at h
 simp only [Bool.or_eq_true, beq_iff_eq] at h
 rcases h with rfl | rfl | rfl | rfl | rfl <;> decide
theorem spaced_law {c : CronV} (h : c.allB 7 = true) (gs : List Int) : trimL (spacedL gs c.text) = c.text ∧ asciiB (spacedL gs c.text) = true := by
 have hw := parts_words h
 have hch := parts_chars h
 rw [text_eq]
 obtain ⟨x0, xs, he⟩ := List.exists_cons_of_ne_nil (show c.parts c.last ≠ [] by rw [parts_cons]; simp)
 rw [he] at hw hch ⊢
 have hgf := gapsFor_ok gs xs 1 (fun x hx => hw x (by simp [hx]))
 refine ⟨?_, ?_⟩
 ·rw [spaced_eq gs x0 xs hw, trim_spread (gapL_ws gs 0) (hw x0 (by simp)) (gapL_ws gs _) hgf, gapsFor_snd]
 ·rw [spaced_eq gs x0 xs hw]
  unfold asciiB
  rw [List.all_eq_true]
  intro d hd
  simp only [List.mem_append] at hd
  rw [decide_eq_true_eq]
  rcases hd with hd | hd | hd | hd
  ·exact ws_ascii (gapL_ws gs 0 d hd)
  ·exact (okC_ascii (hch x0 (by simp) d hd)).1
  ·rcases spread_chars _ d hd with ⟨p, hp, hd⟩ | ⟨p, hp, hd⟩
   ·exact ws_ascii ((hgf p hp).1 d hd)
   ·have : p.2 ∈ (gapsFor gs 1 xs).map (·.2) := List.mem_map.mpr ⟨p, hp, rfl⟩
    rw [gapsFor_snd] at this
    exact (okC_ascii (hch p.2 (by simp [this]) d hd)).1
  ·exact ws_ascii (gapL_ws gs _ d hd)
theorem spaced_fields {c : CronV} (h : RightIs c) (gs : List Int) (hl : (spacedL gs c.text).length ≤ 120) :
 ∃ fs, implO (spacedL gs c.text) = some fs ∧ exprO (spacedL gs c.text) = some fs ∧ isTextB (spacedL gs c.text) = true ∧ trimL (spacedL gs c.text) = c.text ∧ fs.length = 7 ∧ fs[3]?.map (·.2) = some (c.p 3).dayN ∧ fs[5]?.map (·.2) = some (c.p 5).weekN ∧
  ∀ i, i < 7 → (c.p i).k < 8 → fs[i]?.map (·.1) = some (c.numsAt i) := by
 obtain ⟨fs, h1, h2⟩ := build_right h.all h.told
 obtain ⟨ht, ha⟩ := spaced_law h.all gs
 have hi : isTextB (spacedL gs c.text) = true := by unfold isTextB; rw [ha]; simpa using hl
 have he : exprO (spacedL gs c.text) = some fs := by
  unfold exprO
  rw [ht, parse_text h.all, h1]
 refine ⟨fs, ?_, he, hi, ht, h2⟩
 unfold implO
 rw [hi, if_pos rfl, he]
end Go.Proofs.YtmaffdhcmdhjfaaGreatDoor
namespace Go.Proofs.YtmaffdhcmdhjfaaGreatDoor
open Go.RowKit Go.Lib Go.ChangeShapes Go.WideShapes Go.Deep
section
variable {H : Type} {enc : TypeId × Value → H} {W : World} {base : Nat} {sp : Nat → Bool} {held : Bool}
set_option maxRecDepth 1000000 in
theorem open_nums {r : Reach} {b0 : Nat} {v : Value} {d : DataW H} {p : List MemPlace} (hv : Value.okWide Tryz.prog W r b0 38 v) (h : DataW.Trod enc Tryz.prog W base sp held 38 v d p) :
 ∃ (ga : Option Addr) (cap : Nat) (gs : List Int), v = .slice ga gs.length cap ∧ gs.length ≤ 9223372036854775807 ∧ (∀ z ∈ gs, Joins.In64 z) ∧ NumsAt W ga gs := by
 obtain ⟨a0, len0, cap0, rfl⟩ := okWide_slice Tryz.underlying38 hv
 obtain ⟨fuel, hf⟩ := h
 have hcs : (Value.slice a0 len0 cap0).cells.toList = [.slice a0 len0 cap0] := rfl
 rw [hcs] at hf
 rcases open_ints Tryz.underlying38 Tryz.underlying3 c3 hf with ⟨e, _⟩ | ⟨a, len, cap, zs, e, _, hle, hcm, hzl, _, hcell, hwf⟩
 ·simp at e
  obtain ⟨rfl, rfl, rfl⟩ := e
  exact ⟨none, 0, [], rfl, by simp, by simp, fun h => absurd rfl h⟩
 ·simp at e
  obtain ⟨rfl, rfl, rfl⟩ := e
  have hlz : len0 ≤ zs.length := by rw [hzl]; split <;> omega
  have htl : (zs.take len0).length = len0 := by rw [List.length_take]; omega
  refine ⟨some a, cap0, zs.take len0, by rw [htl], by rw [htl]; unfold maxLen at hcm; omega, fun z hz => in64_of_wf (hwf z (List.mem_of_mem_take hz)), ?_⟩
  intro hne
  have hpos : 0 < len0 := by
   rcases Nat.eq_zero_or_pos len0 with h0 | h0
   ·rw [h0] at hne; simp at hne
   ·exact h0
  have h0 := hcell 0 (by omega)
  have e0 : a.add 0 = a := by simp [Addr.add]
  rw [e0] at h0
  have hsp := spot_none h0
  obtain ⟨bl, of, spt⟩ := a
  simp only at hsp
  subst hsp
  refine ⟨bl, of, rfl, fun j z hj => ?_⟩
  have hjl : j < len0 := by
   have := (List.getElem?_eq_some_iff.mp hj).1
   omega
  have hz : zs.getD j 0 = z := by
   rw [List.getElem?_take_of_lt hjl] at hj
   simp [List.getD_eq_getElem?_getD, hj]
  have hc := hcell j (by omega)
  rw [hz] at hc
  have ea : (⟨bl, of, none⟩ : Addr).add j = ⟨bl, of + j, none⟩ := by
   unfold Addr.add
   by_cases h0 : j = 0
   ·subst h0; simp
   ·rw [if_neg h0]
  rw [ea] at hc
  exact hc
end
end Go.Proofs.YtmaffdhcmdhjfaaGreatDoor
