/- NextFireTime: the machine's passes. impl.next, impl.Next. -/
import Derived.Test.YtmaffdhcmdhjfaaGreatDoorNS
set_option linter.unusedSimpArgs false
set_option linter.unusedVariables false
namespace Go.Proofs.YtmaffdhcmdhjfaaGreatDoor
open Go.RowKit Go.Lib
def fireK (C : Csm.Cfg) (q o : Int) : Nat → Csm.St → Option Int
 | 0, _ => none
 | k + 1, st => if q < Csm.value (Csm.forward C st) - o then some (Csm.value (Csm.forward C st) - o) else fireK C q o k (Csm.forward C st)
def fireO (C : Csm.Cfg) (n prev : Int) : Option Int := fireK C (prev / 1000000000) (n * 60) (if n = 0 then 1 else 2) (stSec (prev / 1000000000 + n * 60))
theorem mac_ok {c : Csm.Cfg} (h : CfgOk c) : MacOk c := ⟨h.good, fun z hz => ⟨h.good.hM.low z hz, h.good.hM.high z hz⟩, fun z hz => by have := h.y z hz; omega⟩
theorem stSec_sane (c : Csm.Cfg) {a : Int} (a0 : 0 ≤ a) (a1 : a ≤ 10000000000) : SaneSt c 900000 (stSec a) ∧ TimeIn (stSec a) := by
 obtain ⟨y, m, d, e, v, hN, y0⟩ := Cal.civil_valid (n := a / 86400) (by omega)
 have hy : y ≤ 2300 := by
  have h1 := Cal.year_mono 1970 (y - 1970).toNat
  have e1 : 1970 + ((y - 1970).toNat : Int) = y := by omega
  rw [e1] at h1
  have e0 : Cal.dayNum 1970 1 1 = 0 := by decide
  have h2 := Cal.from_first y m d
  have h3 := Cal.year_first (y := y) v.m1 v.m12
  have := v.d1
  omega
 have hb := Cal.mlen_bd y m
 have v1 := v.m1; have v2 := v.m12; have v3 := v.d1; have v4 := v.dl
 have t1 : 0 ≤ a % 86400 % 60 ∧ a % 86400 % 60 ≤ 59 := by omega
 have t2 : 0 ≤ a % 86400 / 60 % 60 ∧ a % 86400 / 60 % 60 ≤ 59 := by omega
 have t3 : 0 ≤ a % 86400 / 3600 ∧ a % 86400 / 3600 ≤ 59 := by omega
 have w1 : 1900 ≤ y ∧ y ≤ 900000 ∧ d ≤ 31 := by omega
 unfold stSec
 rw [e]
 exact ⟨⟨w1.1, w1.2.1, v1, v2, v3, w1.2.2, fun _ _ => v4⟩, ⟨t1, t2, t3⟩⟩
theorem value_bd {c : Csm.Cfg} {b : Int} (b1 : b ≤ 1000000) {st : Csm.St} (h : SaneSt c b st) (t : TimeIn st) : -100000000000000 ≤ Csm.value st ∧ Csm.value st ≤ 100000000000000 := by
 have hd := dayIn_of (y := st.y) (m := st.m) (d := st.d) h.y0 (by have := h.y1; omega) h.m0 (by have := h.m1; omega) (by have := h.d0; omega) (by have := h.d1; omega)
 obtain ⟨k0, k1⟩ := hd
 have := t.s; have := t.mi; have := t.h
 unfold Csm.value
 omega
def FirePost (R : Option Int) (e : Ending) : Prop :=
 (∃ v, R = some v ∧ e = .returned (.tuple #[.int .i64 (wrap64 (v * 1000000000)), .nilIface])) ∨ (R = none ∧ ∃ t p, e = .returned (.tuple #[.int .i64 0, .iface t p]))
set_option maxHeartbeats 6400000 in
set_option maxRecDepth 1000000 in
theorem next_fire (v : Value) (base B : Nat) (ex nm : ByteArray) (fs : List (List Int × Int)) (n prev : Int) (w : World) (hT : TrigAt w base v ex fs B (decide (n = 0))) (hL : LocAt w B nm (n * 60) (decide (n = 0)))
 (n0 : -1440 ≤ n) (n1 : n ≤ 1440) (p0 : 31536000000000000 ≤ prev) (p1 : prev ≤ 7258118399999999999) (g : CfgOk (cfgF (wildF fs))) (h0 : ∃ t p, w.cell? ⟨0, 0, none⟩ = some (.iface t p)) :
 Calls Tryz.prog 73 #[v, .int .i64 prev] w fun e w' => FirePost (fireO (cfgF (wildF fs)) n prev) e ∧ Ext w w' := by
 obtain ⟨N, fv, L, P, rfl, _, hN, hP, hF⟩ := hT
 have c1 : w.cell? ⟨N, 1, none⟩ = some fv := by simp [World.cell?, hN]
 have c2 : w.cell? ⟨N, 2, none⟩ = some (.pointer (some ⟨B, 0, none⟩)) := by simp [World.cell?, hN]
 have c4 : w.cell? ⟨N, 4, none⟩ = some (.int .i64 P) := by simp [World.cell?, hN]
 have cn := hL.off
 obtain ⟨o, ho⟩ : ∃ o, o = n * 60 := ⟨_, rfl⟩
 obtain ⟨q, hq⟩ : ∃ q, q = prev / 1000000000 := ⟨_, rfl⟩
 have tq : prev.tdiv 1000000000 = q := by rw [hq]; exact Int.tdiv_eq_ediv_of_nonneg (by omega)
 have qb : 31536000 ≤ q ∧ q ≤ 7258118399 := by omega
 have ob : -86400 ≤ o ∧ o ≤ 86400 := by omega
 obtain ⟨K, hK⟩ : ∃ K : Nat, K = if n = 0 then 1 else 2 := ⟨_, rfl⟩
 have hPK : P = (K : Int) := by
  rw [hP, hK]
  by_cases hn : n = 0 <;> simp [hn]
 have hKb : K ≤ 2 := by rw [hK]; split <;> omega
 have HR : Hid (fireO (cfgF (wildF fs)) n prev = fireK (cfgF (wildF fs)) q o K (stSec (q + o))) := by show _ = _; rw [hq, ho, hK]; rfl
 generalize fireO (cfgF (wildF fs)) n prev = R at *
 rw [← ho] at cn
 subst hPK
 have HF := Lib.hid hF
 have HG := Lib.hid g
 obtain ⟨R0, ps, hfv, _⟩ := hF
 subst hfv
 have C1 := Lib.hid c1
 have C2 := Lib.hid c2
 have C4 := Lib.hid c4
 have CN := Lib.hid cn
 have H0 := Lib.hid h0
 obtain ⟨q0, q1⟩ := qb
 obtain ⟨o0, o1⟩ := ob
 have TQ := Lib.hid tq
 have HPB : Hid (31536000000000000 ≤ prev ∧ prev ≤ 7258118399999999999) := ⟨p0, p1⟩
 clear hN hL hP hK hq ho g h0 n0 n1 p0 p1 tq
 obtain ⟨C, hC⟩ : ∃ C, C = cfgF (wildF fs) := ⟨_, rfl⟩
 rw [← hC] at HR HG
 have HC := Lib.hid hC
 clear hC
 go_enter Tryz.func73, Tryz.ntmps73
 have tq := TQ.out
 go_wp2_with fail
 clear tq
 go_still_tail 13, (by kernel_rfl)
 obtain ⟨wd, hwd⟩ : ∃ W, W = w.drew := ⟨_, rfl⟩
 have xd : Ext w wd := by rw [hwd]; exact Ext.drew w
 change wpList _ _ _ _ _ w.drew
 rw [← hwd]
 have XD := Lib.hid xd
 have HNEW := Lib.hid (new_csm (q + o) (by omega) (by omega) _ base _ wd (HF.out.ext xd) (by rw [← HC.out]; exact HG.out))
 have D1 := Lib.hid (xd.cell C1.out)
 have D2 := Lib.hid (xd.cell C2.out)
 have D4 := Lib.hid (xd.cell C4.out)
 have DN := Lib.hid (xd.cell CN.out)
 have hst := stSec_sane C (a := q + o) (by omega) (by omega)
 have HST := Lib.hid hst
 clear hwd xd hst c1 c2 c4 cn
 go_wp2_with fail
 go_at_call 87
 refine HNEW.out.mono ?_
 rintro e w5 ⟨PP, rfl, hOk, hMQ, x5⟩
 rw [← HC.out] at hOk hMQ
 have HS := Lib.hid (mac_s hOk)
 have HQ := Lib.hid hMQ
 have HOK := Lib.hid hOk
 have HM := Lib.hid (mac_ok HG.out)
 have X5 := Lib.hid x5
 clear hOk hMQ x5 HNEW
 obtain ⟨kb, hkb⟩ : ∃ kb, kb = PP.B := ⟨_, rfl⟩
 rw [← hkb]
 have HKB := Lib.hid hkb
 clear hkb
 go_wp2_with fail
 go_loopw [8] (fun i wr => ∃ (k : Nat) (st : Csm.St), i = .int .i64 k ∧ k ≤ K ∧ Hid (R = fireK C q o (K - k) st) ∧ Hid (MQ PP C wd st wr) ∧ Hid (SaneSt C (900000 + 90 * k) st) ∧ Hid (TimeIn st))
  (fun i _ => K - (RowKit.intOf i).toNat)
 case atStart => exact ⟨0, stSec (q + o), rfl, Nat.zero_le _, by rw [HR.out]; rfl, HQ.out, by show SaneSt C _ _; simpa using HST.out.1, HST.out.2⟩
 case round =>
  obtain ⟨k, st, rfl, hk, Hk, HQk, HSk, HTk⟩ := hrel
  have e2 := HQk.out.x.cell D2.out
  have e4 := HQk.out.x.cell D4.out
  have en := HQk.out.x.cell DN.out
  by_cases hlt : k < K
  ·have hsn := forward_sane HM.out (b := 900000 + 90 * (k : Int)) (by omega) (by omega) HSk.out
   have htm := forward_time (Lists59.of HG.out.good) HTk.out
   have hvb := value_bd (by omega) hsn htm
   have HFT : Hid (Calls Tryz.prog 88 #[.pointer (some ⟨kb, 0, none⟩)] wr.drew fun e w' => e = .returned (.int .i64 (Csm.value (Csm.forward C st))) ∧ MQ PP C wd (Csm.forward C st) w') := by
    have := mach_trigger HS.out (b := 900000 + 90 * (k : Int)) (by omega) (by omega) HSk.out HTk.out.ok ⟨⟨hsn.y0, by have := hsn.y1; omega, hsn.m0, hsn.m1, hsn.d0, hsn.d1⟩, htm.ok⟩ wr.drew (HQk.out.ext (Ext.drew _))
    rw [← HKB.out] at this
    exact this
   have HSN : Hid (SaneSt C (900000 + 90 * ((k + 1 : Nat) : Int)) (Csm.forward C st)) := hsn.mono (by omega)
   have HTM := Lib.hid htm
   have Hk2 : Hid (R = if q < Csm.value (Csm.forward C st) - o then some (Csm.value (Csm.forward C st) - o) else fireK C q o (K - (k + 1)) (Csm.forward C st)) := by
    show _ = _
    rw [Hk.out, show K - k = (K - (k + 1)) + 1 by omega]; rfl
   have HD2 : Hid (∀ W, Ext wd W → W.cell? ⟨N, 2, none⟩ = some (.pointer (some ⟨B, 0, none⟩)) ∧ W.cell? ⟨B, 1, none⟩ = some (.int .i64 o)) := fun W x => ⟨x.cell D2.out, x.cell DN.out⟩
   generalize Csm.forward C st = st2 at *
   generalize Csm.value st2 = val at *
   obtain ⟨vb0, vb1⟩ := hvb
   clear hsn htm
   go_upto_region 6 with fail
   go_cut [9] (fun v W => v = .int .i64 (val - o) ∧ Hid (MQ PP C wd st2 W))
   case first =>
    go_region_with (first
     | (go_at_call 88
        refine HFT.out.mono ?_
        rintro e w6 ⟨rfl, h6⟩
        have g2 := (HD2.out _ h6.x).1
        have gn := (HD2.out _ h6.x).2
        have H6 := Lib.hid h6
        clear h6))
    all_goals (
     go_wp2_with fail
     go_meet
     exact ⟨by rw [IntWalk.i64_in (val - o) (by omega)], H6.out⟩)
   case rest =>
    obtain ⟨rfl, H6⟩ := hcut
    by_cases hgt : q < val - o
    ·have HRR : Hid (R = some (val - o)) := by show _ = _; rw [Hk2.out, if_pos hgt]
     go_wp2_with fail
     refine bodyPost_ret (v := .tuple #[.int .i64 (wrap64 ((val - o) * 1000000000)), .nilIface]) (by simp [results, Tryz.results73, go_sem]) rfl ⟨.inl ⟨_, HRR.out, rfl⟩, XD.out.trans H6.out.x⟩
    ·have HRR : Hid (R = fireK C q o (K - (k + 1)) st2) := by show _ = _; rw [Hk2.out, if_neg hgt]
     go_wp2_with fail
     exact ⟨⟨k + 1, st2, rfl, by omega, HRR.out, H6.out, HSN.out, HTM.out⟩, by simp only [RowKit.intOf]; omega⟩
  ·obtain rfl : k = K := by omega
   have HRR : Hid (R = none) := by show _ = _; rw [Hk.out, Nat.sub_self]; rfl
   obtain ⟨t0, p0, hc0⟩ := H0.out
   have h00 := HQk.out.x.cell (XD.out.cell hc0)
   clear hc0
   go_wp2_with fail
   go_region
   go_wp2_with fail
   refine bodyPost_ret (v := .tuple #[.int .i64 0, .iface t0 p0]) (by simp [results, Tryz.results73, go_sem]) rfl ⟨.inr ⟨HRR.out, _, _, rfl⟩, (XD.out.trans HQk.out.x).trans (Ext.drew _)⟩
end Go.Proofs.YtmaffdhcmdhjfaaGreatDoor
namespace Go.Proofs.YtmaffdhcmdhjfaaGreatDoor
open Go.RowKit Go.Lib
def nextC (C : Csm.Cfg) (n prev : Int) : Int × Int :=
 if prev < 31536000000000000 ∨ 7258118399999999999 < prev then (0, 3) else
 match fireO C n prev with
 | some x => (wrap64 (x * 1000000000), 0)
 | none => (0, 1)
set_option maxHeartbeats 1600000 in
set_option maxRecDepth 1000000 in
theorem impl_next (v : Value) (base B : Nat) (ex nm : ByteArray) (fs : List (List Int × Int)) (n prev : Int) (w : World) (hT : TrigAt w base v ex fs B (decide (n = 0))) (hL : LocAt w B nm (n * 60) (decide (n = 0)))
 (n0 : -1440 ≤ n) (n1 : n ≤ 1440) (g : CfgOk (cfgF (wildF fs))) (h0 : ∃ t p, w.cell? ⟨0, 0, none⟩ = some (.iface t p)) :
 Calls Tryz.prog 54 #[v, .int .i64 prev] w fun e w' => e = .returned (.tuple #[.int .i64 (nextC (cfgF (wildF fs)) n prev).1, .int .i64 (nextC (cfgF (wildF fs)) n prev).2]) ∧ Ext w w' := by
 have HF : Hid (31536000000000000 ≤ prev → prev ≤ 7258118399999999999 → Calls Tryz.prog 73 #[v, .int .i64 prev] w fun e w' => FirePost (fireO (cfgF (wildF fs)) n prev) e ∧ Ext w w') := fun a b => next_fire v base B ex nm fs n prev w hT hL n0 n1 a b g h0
 obtain ⟨N, hN⟩ : ∃ N, v = .pointer (some ⟨N, 0, none⟩) := by obtain ⟨N, _, _, _, hv, _⟩ := hT; exact ⟨N, hv⟩
 subst hN
 have HD : Hid (nextC (cfgF (wildF fs)) n prev = if prev < 31536000000000000 ∨ 7258118399999999999 < prev then (0, 3) else
  match fireO (cfgF (wildF fs)) n prev with
  | some x => (wrap64 (x * 1000000000), 0)
  | none => ((0, 1) : Int × Int)) := rfl
 generalize nextC (cfgF (wildF fs)) n prev = R at *
 generalize fireO (cfgF (wildF fs)) n prev = O at *
 clear hT hL n0 n1 g h0
 rcases ha : decide (prev < 31536000000000000)
 ·rcases hb : decide (7258118399999999999 < prev)
  ·have hx : ¬ (prev < 31536000000000000 ∨ 7258118399999999999 < prev) := by simp at ha hb; omega
   have HX := Lib.hid hx
   have HC := Lib.hid (HF.out (by simp at ha hb; omega) (by simp at ha hb; omega))
   clear hx
   go_enter Tryz.func54, Tryz.ntmps54
   go_wp2_with fail
   go_at_call 73
   refine HC.out.mono ?_
   rintro e w1 ⟨⟨x, hO, rfl⟩ | ⟨hO, t, p, rfl⟩, x1⟩
   ·have HR : Hid (R = (wrap64 (x * 1000000000), 0)) := by show _ = _; rw [HD.out, if_neg HX.out, hO]
    have X1 := Lib.hid x1
    generalize wrap64 (x * 1000000000) = y at *
    clear hO x1
    go_wp2_with fail
    refine bodyPost_ret (v := .tuple #[.int .i64 y, .int .i64 0]) (by simp [results, Tryz.results54, go_sem]) rfl ⟨by rw [HR.out], X1.out⟩
   ·have HR : Hid (R = (0, 1)) := by show _ = _; rw [HD.out, if_neg HX.out, hO]
    have X1 := Lib.hid x1
    clear hO x1
    go_wp2_with fail
    refine bodyPost_ret (v := .tuple #[.int .i64 0, .int .i64 1]) (by simp [results, Tryz.results54, go_sem]) rfl ⟨by rw [HR.out], X1.out⟩
  ·have HR : Hid (R = (0, 3)) := by show _ = _; rw [HD.out, if_pos (by simp at hb; omega)]
   go_enter Tryz.func54, Tryz.ntmps54
   go_wp2_with fail
   refine bodyPost_ret (v := .tuple #[.int .i64 0, .int .i64 3]) (by simp [results, Tryz.results54, go_sem]) rfl ⟨by rw [HR.out], Ext.refl _⟩
 ·have HR : Hid (R = (0, 3)) := by show _ = _; rw [HD.out, if_pos (by simp at ha; omega)]
  go_enter Tryz.func54, Tryz.ntmps54
  go_wp2_with fail
  refine bodyPost_ret (v := .tuple #[.int .i64 0, .int .i64 3]) (by simp [results, Tryz.results54, go_sem]) rfl ⟨by rw [HR.out], Ext.refl _⟩
structure EnvN (w : World) : Prop where
 env : Env w
 exp : ∃ t p, w.cell? ⟨0, 0, none⟩ = some (.iface t p)
theorem EnvN.ext {w w' : World} (h : EnvN w) (x : Ext w w') : EnvN w' :=
 ⟨h.env.ext x, by obtain ⟨t, p, hc⟩ := h.exp; exact ⟨t, p, x.cell hc⟩⟩
set_option maxHeartbeats 1600000 in
set_option maxRecDepth 1000000 in
theorem impl_Next (s : ByteArray) (n prev : Int) (fs : List (List Int × Int)) (w : World) (hs : s.size ≤ 100000000) (n0 : -1440 ≤ n) (n1 : n ≤ 1440) (hf : implO (bytes s) = some fs) (ht : takenF fs = true) (g : CfgOk (cfgF (wildF fs))) (hE : EnvN w) :
 Calls Tryz.prog 28 #[.string s, .int .i64 n, .int .i64 prev] w fun e w' => e = .returned (.tuple #[.int .i64 (nextC (cfgF (wildF fs)) n prev).1, .int .i64 (nextC (cfgF (wildF fs)) n prev).2]) ∧ Ext w w' := by
 have HT := Lib.hid (trigger_fine s n fs w hs n0 n1 hf ht hE.env)
 have HN : Hid (∀ (v : Value) (B : Nat) (W : World), TrigAt W w.heap.size v (mk (trimL (bytes s))) fs B (decide (n = 0)) → LocAt W B (placeB n) (n * 60) (decide (n = 0)) → Ext w W →
  Calls Tryz.prog 54 #[v, .int .i64 prev] W fun e w' => e = .returned (.tuple #[.int .i64 (nextC (cfgF (wildF fs)) n prev).1, .int .i64 (nextC (cfgF (wildF fs)) n prev).2]) ∧ Ext W w') :=
  fun v B W a b x => impl_next v _ B _ _ fs n prev W a b n0 n1 g (hE.ext x).exp
 generalize nextC (cfgF (wildF fs)) n prev = R at *
 clear hf ht g hE n0 n1 hs
 go_enter Tryz.func28, Tryz.ntmps28
 go_wp2_with fail
 go_at_call 45
 refine HT.out.mono ?_
 rintro e w1 ⟨B, v, rfl, hTr, hL, hx⟩
 have HC := Lib.hid (HN.out v B w1 hTr hL hx)
 have X1 := Lib.hid hx
 obtain ⟨N, hN⟩ : ∃ N, v = .pointer (some ⟨N, 0, none⟩) := by obtain ⟨N, _, _, _, hv, _⟩ := hTr; exact ⟨N, hv⟩
 subst hN
 clear hTr hL hx
 go_wp2_with fail
 go_at_call 54
 refine HC.out.mono ?_
 rintro e w2 ⟨rfl, x2⟩
 have X2 := Lib.hid (X1.out.trans x2)
 clear x2
 go_wp2_with fail
 refine bodyPost_ret (v := .tuple #[.int .i64 R.1, .int .i64 R.2]) (by simp [results, Tryz.results28, go_sem]) rfl ⟨rfl, X2.out⟩
set_option maxHeartbeats 1600000 in
set_option maxRecDepth 1000000 in
theorem trigger_untaken (s : ByteArray) (n : Int) (fs : List (List Int × Int)) (w : World) (hs : s.size ≤ 100000000) (h0 : -1440 ≤ n) (h1 : n ≤ 1440) (hf : implO (bytes s) = some fs) (ht : takenF fs = false) (hE : Env w) :
 Calls Tryz.prog 45 #[.string s, .int .i64 n] w fun e w' => e = .returned (.tuple #[.pointer none, .int .i64 3]) ∧ Ext w w' := by
 have hT : isTextB (bytes s) = true := by
  unfold implO at hf; split at hf
  ·assumption
  ·cases hf
 have hX : exprO (bytes s) = some fs := by unfold implO at hf; rw [hT, if_pos rfl] at hf; exact hf
 have hl := isText_len hT
 rw [bytes_length] at hl
 have hK : takenO (bytes s) = false := by unfold takenO; rw [hf]; exact ht
 have HT := Lib.hid hT
 have HX := Lib.hid hX
 have HK := Lib.hid hK
 clear hT hX hK hf ht
 go_enter Tryz.func45, Tryz.ntmps45
 go_wp2_with fail
 go_at_call 38
 refine (is_text s _ hs).mono ?_
 rintro e w1 ⟨rfl, rfl⟩
 rw [HT.out]
 go_wp2_with fail
 go_at_call 64
 refine (is_place n _).mono ?_
 rintro e w1 ⟨rfl, rfl⟩
 rw [show (decide (-1440 ≤ n) && decide (n ≤ 1440)) = true by simp; omega]
 go_wp2_with fail
 go_at_call 66
 refine (place_any n _ h0 h1).mono ?_
 rintro e w2 ⟨rfl, hL, hx2⟩
 have HL := Lib.hid hL
 go_wp2_with fail
 go_at_call 65
 refine (new_cron s _ _ _ _ _ (by omega) HL.out (hE.ext hx2)).mono ?_
 rintro e w3 ⟨⟨fs', v, hf, rfl, hTr⟩ | ⟨hf, _⟩, hx3⟩
 ·obtain ⟨N, hN⟩ : ∃ N, v = .pointer (some ⟨N, 0, none⟩) := by obtain ⟨N, _, _, _, hv, _⟩ := hTr; exact ⟨N, hv⟩
  subst hN
  have HX3 := Lib.hid (hx2.trans hx3)
  clear hf hTr hL
  go_wp2_with fail
  go_at_call 30
  refine (taken_any s _ hs (hE.ext HX3.out)).mono ?_
  rintro e w4 ⟨rfl, hx4⟩
  rw [HK.out]
  go_wp2_with fail
  go_ret2
  exact ⟨rfl, HX3.out.trans hx4⟩
 ·rw [HX.out] at hf; cases hf
set_option maxHeartbeats 1600000 in
set_option maxRecDepth 1000000 in
theorem impl_Next3 (s : ByteArray) (n prev : Int) (fs : List (List Int × Int)) (w : World) (hs : s.size ≤ 100000000) (n0 : -1440 ≤ n) (n1 : n ≤ 1440) (hf : implO (bytes s) = some fs) (ht : takenF fs = false) (hE : Env w) :
 Calls Tryz.prog 28 #[.string s, .int .i64 n, .int .i64 prev] w fun e w' => e = .returned (.tuple #[.int .i64 0, .int .i64 3]) ∧ Ext w w' := by
 have HT := Lib.hid (trigger_untaken s n fs w hs n0 n1 hf ht hE)
 clear hf ht hE n0 n1 hs
 go_enter Tryz.func28, Tryz.ntmps28
 go_wp2_with fail
 go_at_call 45
 refine HT.out.mono ?_
 rintro e w1 ⟨rfl, x1⟩
 go_wp2_with fail
 go_ret2
 exact ⟨rfl, x1⟩
end Go.Proofs.YtmaffdhcmdhjfaaGreatDoor
