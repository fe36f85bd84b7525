/- impl.Fires. laws.FnFires returns true. FnFires: for every input the law returns true; its conditions: the listed package-level variables read as the program's text lays them (the card ties that). -/
import Derived.Test.YtmaffdhcmdhjfaaGreatDoorNX
import Derived.Test.YtmaffdhcmdhjfaaGreatDoorNK
set_option linter.unusedSimpArgs false
set_option linter.unusedVariables false
namespace Go.Proofs.YtmaffdhcmdhjfaaGreatDoor
open Go.RowKit Go.Lib
def firesL (C : Csm.Cfg) (n : Int) : Int → Nat → List Int × Int
 | _, 0 => ([], 0)
 | p, k + 1 => if (nextC C n p).2 = 0 then ((nextC C n p).1 :: (firesL C n (nextC C n p).1 k).1, (firesL C n (nextC C n p).1 k).2) else ([], (nextC C n p).2)
theorem own_down {w : World} {base base' e size n : Nat} {v : Value} {xs : List Value} (h : w.ownsRow base e size v n xs) (hb : base' ≤ base) : w.ownsRow base' e size v n xs := by
 refine ⟨h.1, ?_⟩
 rcases h.2 with hn | ⟨g, cap, cur, h1, h2, rest⟩
 ·exact .inl hn
 ·exact .inr ⟨g, cap, cur, h1, Nat.le_trans hb h2, rest⟩
theorem Tryz.info2 : (Tryz.prog.info? 2).map (fun i => (i.zero, i.size, i.bytes)) = some (some (.int .i64 0), 1, 8) := by kernel_rfl
set_option maxHeartbeats 6400000 in
set_option maxRecDepth 1000000 in
theorem impl_fires (s : ByteArray) (n prev : Int) (k : Nat) (hk : k ≤ 50) (fs : List (List Int × Int)) (w : World) (hs : s.size ≤ 100000000) (n0 : -1440 ≤ n) (n1 : n ≤ 1440) (hf : implO (bytes s) = some fs) (ht : takenF fs = true) (g : CfgOk (cfgF (wildF fs))) (hE : EnvN w) :
 Calls Tryz.prog 34 #[.string s, .int .i64 n, .int .i64 prev, .int .i64 k] w fun e w' => ∃ v, e = .returned (.tuple #[v, .int .i64 (firesL (cfgF (wildF fs)) n prev k).2]) ∧ w'.ownsRow w.heap.size 2 1 v (firesL (cfgF (wildF fs)) n prev k).1.length (ints (firesL (cfgF (wildF fs)) n prev k).1) ∧ Ext w w' := by
 obtain ⟨i0, hi0, hz0, hz1, hz2⟩ := info_parts Tryz.info2
 have HT := Lib.hid (trigger_fine s n fs w hs n0 n1 hf ht hE.env)
 have HN : Hid (∀ (v : Value) (B : Nat) (W : World) (p : Int), TrigAt W w.heap.size v (mk (trimL (bytes s))) fs B (decide (n = 0)) → LocAt W B (placeB n) (n * 60) (decide (n = 0)) → Ext w W →
  Calls Tryz.prog 54 #[v, .int .i64 p] W fun e w' => e = .returned (.tuple #[.int .i64 (nextC (cfgF (wildF fs)) n p).1, .int .i64 (nextC (cfgF (wildF fs)) n p).2]) ∧ Ext W w') :=
  fun v B W p a b x => impl_next v _ B _ _ fs n p W a b n0 n1 g (hE.ext x).exp
 generalize cfgF (wildF fs) = C at *
 have HFL : Hid (∀ p m, firesL C n p (m + 1) = if (nextC C n p).2 = 0 then ((nextC C n p).1 :: (firesL C n (nextC C n p).1 m).1, (firesL C n (nextC C n p).1 m).2) else ([], (nextC C n p).2)) := fun p m => rfl
 have HF0 : Hid (∀ p, firesL C n p 0 = ([], 0)) := fun p => rfl
 have HR0 : Hid (firesL C n prev k = ([] ++ (firesL C n prev k).1, (firesL C n prev k).2)) := by show _ = _; simp
 generalize hR : firesL C n prev k = R at *
 have HR : Hid (R = ([] ++ (firesL C n prev k).1, (firesL C n prev k).2)) := by show _ = _; rw [hR]; exact HR0.out
 clear hf ht g hE hR HR0
 go_enter Tryz.func34, Tryz.ntmps34
 go_wp2_with fail
 go_at_call 45
 refine HT.out.mono ?_
 rintro e w1 ⟨B, v, rfl, hTr, hL, hx⟩
 obtain ⟨N, hN⟩ : ∃ N, v = .pointer (some ⟨N, 0, none⟩) := by obtain ⟨N, _, _, _, hv, _⟩ := hTr; exact ⟨N, hv⟩
 subst hN
 have X1 := Lib.hid hx
 have HTr := Lib.hid hTr
 have HL := Lib.hid hL
 have hsz := Below.size hx
 have HSZ := Lib.hid hsz
 clear hTr hL hx hsz
 go_wp2_with fail
 go_loopw [2, 3, 11, 12] (fun pv nv cv ov wr => ∃ (L : List Int) (p : Int) (m : Nat) (cd : Int), pv = .int .i64 p ∧ nv = .int .i64 m ∧ cv = .int .i64 cd ∧ L.length + m ≤ 50 ∧ Hid (R = (L ++ (firesL C n p m).1, (firesL C n p m).2)) ∧ Hid (wr.ownsRow w1.heap.size 2 1 ov L.length (ints L)) ∧ Hid (Ext w1 wr))
  (fun _ nv _ _ _ => (RowKit.intOf nv).toNat)
 case atStart => exact ⟨[], prev, k, 0, rfl, rfl, rfl, by simpa using hk, HR.out, (by show World.ownsRow _ _ _ _ _ _ _; exact World.ownsRow_nil _ _ _ _), Ext.refl _⟩
 case round =>
  obtain ⟨L, p, m, cd, rfl, rfl, rfl, hLm, HRR, HO, HX⟩ := hrel
  obtain ⟨ao, co, ho⟩ := own_any HO.out
  rcases m with _ | m
  ·have hz : firesL C n p 0 = ([], 0) := HF0.out p
   have HRE : Hid (R = (L, 0)) := by show _ = _; rw [HRR.out, hz]; simp
   clear hz
   subst ho
   go_wp2_with fail
   refine bodyPost_ret (v := .tuple #[.slice ao L.length co, .int .i64 0]) (by simp [results, Tryz.results34, go_sem]) rfl ⟨.slice ao L.length co, ?_, ?_, X1.out.trans HX.out⟩
   ·rw [HRE.out]
   ·rw [HRE.out]; exact own_down HO.out HSZ.out
  ·have hz := HFL.out p m
   have hT2 := HTr.out.ext HX.out
   have hL2 := HL.out.ext HX.out
   have HC := Lib.hid (HN.out _ _ _ p hT2 hL2 (X1.out.trans HX.out))
   generalize hnx : nextC C n p = NX at *
   obtain ⟨x, c2⟩ := NX
   simp only at hz HC
   clear hT2 hL2 hnx
   by_cases hc : c2 = 0
   ·subst hc
    have HRE : Hid (R = ((L ++ [x]) ++ (firesL C n x m).1, (firesL C n x m).2)) := by show _ = _; rw [HRR.out, hz]; simp
    clear hz
    subst ho
    have hm0 : (0 : Int) < ((m + 1 : Nat) : Int) := by omega
    go_wp2_with fail
    go_at_call 54
    refine HC.out.mono ?_
    rintro e w3 ⟨rfl, x3⟩
    have own6 := own_ext x3 HO.out
    have hx3 := HX.out.trans x3
    clear x3
    go_wp2_with (first
     | (at_builtin; refine wpList_append_own _ rfl _ _ 56 rfl w1.heap.size 2 i0 (.int .i64 0) 1 8 Tryz.underlying56 hi0 hz0 hz1 hz2 rfl (by decide) _ _ _ rfl (own6.alloc _) ⟨w3.heap.size, 0, none⟩ 1 1 [.int .i64 x] rfl rfl ?c1 ?c2 ?c3 ?c4 ?c5 ?_)
     | go_in)
    case c1 => exact cell_one_new _ _ _
    case c2 => intro u hu; simp at hu; subst hu; rfl
    case c3 => unfold maxLen; omega
    case c4 => omega
    case c5 => have := hx3.size; simp; omega
    intro v' w5 hown' hgrow _
    have A1 : Hid (w5.ownsRow w1.heap.size 2 1 v' (L ++ [x]).length (ints (L ++ [x]))) := by
     show World.ownsRow _ _ _ _ _ _ _
     rw [ints_snoc]; simpa using hown'
    have A4 := Ext.own_grown hx3 own6 hgrow
    have HA4 := Lib.hid A4
    clear hown' hgrow own6 A4 hx3
    go_wp2_with fail
    exact ⟨⟨L ++ [x], x, m, 0, rfl, (by first | rfl | (congr 1; omega)), rfl, by simp; omega, HRE.out, A1.out, HA4.out⟩, by simp only [RowKit.intOf]; omega⟩
   ·have HRE : Hid (R = (L, c2)) := by show _ = _; rw [HRR.out, hz, if_neg hc]; simp
    have hcb : (c2 != 0) = true := by simp [hc]
    clear hz hc
    subst ho
    go_wp2_with fail
    go_at_call 54
    refine HC.out.mono ?_
    rintro e w3 ⟨rfl, x3⟩
    have X3 := Lib.hid x3
    clear x3
    go_wp2_with fail
    refine bodyPost_ret (v := .tuple #[.slice ao L.length co, .int .i64 c2]) (by simp [results, Tryz.results34, go_sem]) rfl ⟨.slice ao L.length co, ?_, ?_, (X1.out.trans HX.out).trans X3.out⟩
    ·rw [HRE.out]
    ·rw [HRE.out]; exact own_down (own_ext X3.out HO.out) HSZ.out
end Go.Proofs.YtmaffdhcmdhjfaaGreatDoor
namespace Go.Proofs.YtmaffdhcmdhjfaaGreatDoor
open Go.RowKit Go.Lib
attribute [local go_sem ↓] execOp_loadCron
theorem want_first {c : CronV} {n p t : Int} (hp : 31536000000000000 ≤ p) (h : NextPost c (secAt n p) t true) : 31536000000000000 ≤ (t - n * 60) * 1000000000 ∧ (t - n * 60) * 1000000000 ≤ 9000000000000000000 ∨ n < -1440 ∨ 1440 < n := by
 rcases h with ⟨_, f, g, _⟩ | ⟨e, _⟩
 ·have := fit_2200 f
  have e84 : Cal.dayNum 2200 1 1 = 84006 := by decide
  unfold secAt at g
  omega
 ·cases e
set_option maxHeartbeats 6400000 in
set_option maxRecDepth 1000000 in
theorem law_fires (c : CronV) (hO : CronIn c) (n prev k : Int) (w : World) (hI : CronItems w c) (hE : EnvN w) :
 Calls Tryz.prog 11 #[.agg c.cells, .int .i64 n, .int .i64 prev, .int .i64 k] w fun e w' => e = .returned (.bool true) ∧ Ext w w' := by
 have HC : Hid (CronAt (w.alloc (.cells c.cells 27)) w.heap.size c) := cron_alloc w c
 have HX : Hid (Ext w (w.alloc (.cells c.cells 27))) := Ext.alloc _ _
 have hld := HC.out.whole
 have HI := Lib.hid hI
 have HO := Lib.hid hO
 have HE := Lib.hid hE
 have HAK : Hid (∀ W, Ext w W → Calls Tryz.prog 22 #[.agg c.cells, .int .i64 n, .int .i64 prev] W fun e w' => e = .returned (.bool (askedB c n prev)) ∧ Ext W w') := fun W x => asked_any c hO n prev W (hI.ext x) (hE.ext x).env
 clear hI hO hE
 go_enter Tryz.func11, Tryz.ntmps11
 go_wp2_with fail
 go_at_call 12
 refine (fits_any c _).mono ?_
 rintro e w1 ⟨rfl, x1⟩
 have C1 := Lib.hid (HC.out.ext x1)
 have X1 := Lib.hid (HX.out.trans x1)
 clear x1 hld
 have hld := C1.out.whole
 go_wp2_with fail
 go_at_call 22
 refine (HAK.out _ X1.out).mono ?_
 rintro e w2 ⟨rfl, x2⟩
 have C2 := Lib.hid (C1.out.ext x2)
 have X2 := Lib.hid (X1.out.trans x2)
 clear x2 hld
 rcases ha : askedB c n prev
 ·go_wp2_with fail
  go_ret
  exact ⟨rfl, X2.out⟩
 by_cases hk0 : k < 0
 ·go_wp2_with fail
  go_ret
  exact ⟨rfl, X2.out⟩
 by_cases hk12 : 12 < k
 ·go_wp2_with fail
  go_ret
  exact ⟨rfl, X2.out⟩
 obtain ⟨kn, rfl⟩ : ∃ kn : Nat, k = kn := ⟨k.toNat, by omega⟩
 have hA := asked_is ha
 have hl := hA.right.len
 have hf := (fields_exact hA.right).1
 have htk := taken_law hA.right
 rw [hA.taken] at htk
 have HTX : Hid (∀ W, Ext w W → Calls Tryz.prog 14 #[.agg c.cells] W fun e w' => e = .returned (.string (mk c.text)) ∧ Ext W w') := fun W x => text_cron c (cron_ok HO.out hA.right.all) W (HI.out.ext x) (HE.out.ext x).env
 have HFI : Hid (∀ W, Ext w W → Calls Tryz.prog 34 #[.string (mk c.text), .int .i64 n, .int .i64 prev, .int .i64 kn] W fun e w' => ∃ v, e = .returned (.tuple #[v, .int .i64 (firesL c.cfgM n prev kn).2]) ∧ w'.ownsRow W.heap.size 2 1 v (firesL c.cfgM n prev kn).1.length (ints (firesL c.cfgM n prev kn).1) ∧ Ext W w') := fun W x =>
  impl_fires (mk c.text) n prev kn (by omega) c.fieldsL W (by rw [size_mk]; omega) hA.n0 hA.n1 (by rw [bytes_mk]; exact hf) htk (cfgM_ok hA.asks) (HE.out.ext x)
 have HMS : Hid (∀ p W, 31536000000000000 ≤ p → p ≤ 7258118399999999999 → Ext w W → Calls Tryz.prog 25 #[.agg c.cells, .int .i64 n, .int .i64 p] W fun e w' => e = .returned (.bool (c.missedB (secAt n p))) ∧ Ext W w') := fun p W a b x => sp_missed c hA.right n p hA.n0 hA.n1 a b W (HI.out.ext x)
 have HIN : Hid (∀ p W, 31536000000000000 ≤ p → p ≤ 7258118399999999999 → Ext w W → Calls Tryz.prog 26 #[.agg c.cells, .int .i64 n, .int .i64 p] W fun e w' => InstPost c n p e ∧ Ext W w') := fun p W a b x => sp_nextinstant c hA.right n p hA.n0 hA.n1 a b W (HI.out.ext x)
 have HLAW : Hid (∀ p, 31536000000000000 ≤ p → p ≤ 7258118399999999999 → c.missedB (secAt n p) = false → (∀ t, NextPost c (secAt n p) t true → nextC c.cfgM n p = ((t - n * 60) * 1000000000, 0)) ∧ (NextPost c (secAt n p) 0 false → c.byYears = true → nextC c.cfgM n p = (0, 1))) := fun p a b hm => next_law hA.asks ⟨hA.n0, hA.n1, a, b⟩ hm
 have HWF : Hid (∀ p t, 31536000000000000 ≤ p → NextPost c (secAt n p) t true → 31536000000000000 ≤ (t - n * 60) * 1000000000 ∧ (t - n * 60) * 1000000000 ≤ 9000000000000000000) := fun p t a h => by
  have h1 := hA.n0
  have h2 := hA.n1
  rcases want_first a h with h | h | h
  ·exact h
  ·omega
  ·omega
 have HP0 : Hid (31536000000000000 ≤ prev) := hA.p0
 have HFL : Hid (∀ p m, firesL c.cfgM n p (m + 1) = if (nextC c.cfgM n p).2 = 0 then ((nextC c.cfgM n p).1 :: (firesL c.cfgM n (nextC c.cfgM n p).1 m).1, (firesL c.cfgM n (nextC c.cfgM n p).1 m).2) else ([], (nextC c.cfgM n p).2)) := fun p m => rfl
 have HF0 : Hid (∀ p, firesL c.cfgM n p 0 = ([], 0)) := fun p => rfl
 have HR : Hid (firesL c.cfgM n prev kn = ([] ++ (firesL c.cfgM n prev kn).1, (firesL c.cfgM n prev kn).2)) := by show _ = _; simp
 have HBY := Lib.hid (fun W => by_years c W)
 generalize mk c.text = tx at *
 generalize c.cfgM = C at *
 have HLEN : Hid ((firesL C n prev kn).1.length ≤ 12) := by
  have key : ∀ m p, (firesL C n p m).1.length ≤ m := by
   intro m
   induction m with
   | zero => intro p; exact Nat.le_refl _
   | succ m ih =>
     intro p
     unfold firesL
     split
     ·have := ih (nextC C n p).1; simp; exact this
     ·simp
  have := key kn prev
  show _ ≤ _
  omega
 generalize hRR : firesL C n prev kn = RR at *
 have HR2 : Hid (RR = ([] ++ (firesL C n prev kn).1, (firesL C n prev kn).2)) := by show _ = _; rw [hRR]; exact HR.out
 obtain ⟨GL, cd⟩ := RR
 simp only at HFI HLEN
 clear ha hA hl hf htk HAK hRR HR
 have hld := C2.out.whole
 go_wp2_with fail
 go_at_call 14
 refine (HTX.out _ X2.out).mono ?_
 rintro e w3 ⟨rfl, x3⟩
 have C3 := Lib.hid (C2.out.ext x3)
 have X3 := Lib.hid (X2.out.trans x3)
 clear x3 hld
 go_wp2_with fail
 go_at_call 34
 refine (HFI.out _ X3.out).mono ?_
 rintro e w4 ⟨v, rfl, ho, x4⟩
 obtain ⟨ag, cg, rfl⟩ := own_any ho
 have HOW := Lib.hid ho
 have C4 := Lib.hid (C3.out.ext x4)
 have X4 := Lib.hid (X3.out.trans x4)
 obtain ⟨gl, hgl⟩ : ∃ gl, gl = GL.length := ⟨_, rfl⟩
 have HGL := Lib.hid hgl
 rw [← hgl] at HLEN ⊢
 have hglb := HLEN.out
 clear ho x4 hgl
 go_wp2_with fail
 go_loopw [2, 11] (fun pv iv wr => ∃ (L : List Int) (p : Int) (m : Nat), pv = .int .i64 p ∧ iv = .int .i64 (L.length : Nat) ∧ L.length + m = kn ∧ Hid (31536000000000000 ≤ p) ∧ Hid ((GL, cd) = (L ++ (firesL C n p m).1, (firesL C n p m).2)) ∧ Hid (Ext w4 wr))
  (fun _ iv _ => kn - (RowKit.intOf iv).toNat)
 case atStart => exact ⟨[], prev, kn, rfl, rfl, by simp, HP0.out, HR2.out, Ext.refl _⟩
 case round =>
  obtain ⟨L, p, m, rfl, rfl, hLm, HP, HS, HXr⟩ := hrel
  obtain ⟨i, hi⟩ : ∃ i, i = L.length := ⟨_, rfl⟩
  rw [← hi] at hLm ⊢
  have HLI := Lib.hid hi
  clear hi
  have CR := Lib.hid (C4.out.ext HXr.out)
  have XR := Lib.hid (X4.out.trans HXr.out)
  rcases m with _ | m
  ·have hz := HF0.out p
   have hs := HS.out
   rw [hz] at hs
   simp only [List.append_nil] at hs
   injection hs with hs1 hs2
   have hgl2 : gl = i := by rw [HGL.out, HLI.out, hs1]
   have hik : i = kn := by omega
   subst hs2
   subst hgl2
   subst hik
   clear hz hs1 HS
   go_wp2_with fail
   go_ret
   exact ⟨by first | rfl | simp, XR.out⟩
  ·have hlt : i < kn := by omega
   by_cases hpl : 7258118399999999999 < p
   ·go_wp2_with fail
    go_ret
    exact ⟨rfl, XR.out⟩
   ·have HPL : Hid (p ≤ 7258118399999999999) := by show _ ≤ _; omega
    have hld := CR.out.whole
    have HMSp := Lib.hid (HMS.out p wr HP.out HPL.out XR.out)
    have HLp := Lib.hid (HLAW.out p HP.out HPL.out)
    rcases hm : c.missedB (secAt n p)
    ·rw [hm] at HMSp
     obtain ⟨l1, l2⟩ := HLp.out hm
     have L1 := Lib.hid l1
     have L2 := Lib.hid l2
     clear hm HLp l1 l2
     have hpl2 : p ≤ 7258118399999999999 := HPL.out
     clear hpl
     go_wp2_with fail
     go_at_call 25
     refine HMSp.out.mono ?_
     rintro e w5 ⟨rfl, x5⟩
     have C5 := Lib.hid (CR.out.ext x5)
     have X5 := Lib.hid (XR.out.trans x5)
     have Y5 := Lib.hid (HXr.out.trans x5)
     clear x5 hld
     have hld := C5.out.whole
     go_wp2_with fail
     go_at_call 26
     refine (HIN.out p _ HP.out HPL.out X5.out).mono ?_
     rintro e w6 ⟨⟨t, hp, rfl⟩ | ⟨hp, rfl⟩, x6⟩
     ·have hnx := L1.out t hp
      obtain ⟨b1, b2⟩ := HWF.out p t HP.out hp
      have HB := Lib.hid b1
      have hz := HFL.out p m
      rw [hnx] at hz
      generalize (t - n * 60) * 1000000000 = Q at *
      simp only [if_true] at hz
      have hs := HS.out
      rw [hz] at hs
      simp only at hs
      injection hs with hs1 hs2
      have HSN : Hid ((GL, cd) = ((L ++ [Q]) ++ (firesL C n Q m).1, (firesL C n Q m).2)) := by show _ = _; rw [hs1, hs2]; simp
      have hil : i < gl := by rw [HGL.out, HLI.out, hs1]; simp
      have hgi : GL[i]? = some Q := by rw [hs1, HLI.out]; simp
      have hcell : ∃ g, ag = some ⟨g, 0, none⟩ ∧ w6.cell? ⟨g, i, none⟩ = some (.int .i64 Q) := by
       obtain ⟨g, cap', he, _⟩ := World.ownsRow.form HOW.out (by rw [← HGL.out]; omega)
       injection he with e1 e2 e3
       subst e1
       refine ⟨g, rfl, ?_⟩
       have h0 := HOW.out
       subst e3
       have := World.ownsRow.cellAt h0 i (by rw [← HGL.out]; omega)
       rw [(Y5.out.trans x6).cell (v := .int .i64 Q) (by rw [this, ints, List.getElem?_map, hgi]; rfl)]
      obtain ⟨g, rfl, hc⟩ := hcell
      have X6 := Lib.hid (X5.out.trans x6)
      have Y6 := Lib.hid (Y5.out.trans x6)
      clear x6 hp hnx b1 b2 hz hs1 hs2 hgi hld HS
      go_wp2_with fail
      exact ⟨⟨L ++ [Q], Q, m, rfl, (by first | (simp only [List.length_append, List.length_singleton]; rw [← HLI.out]; rfl) | (congr 1; simp; rw [← HLI.out])), by simp; rw [← HLI.out]; omega, HB.out, HSN.out, Y6.out⟩, by simp only [RowKit.intOf]; omega⟩
     ·have HNX := Lib.hid (L2.out hp)
      have X6 := Lib.hid (X5.out.trans x6)
      have C6 := Lib.hid (C5.out.ext x6)
      clear x6 hp hld
      have hld := C6.out.whole
      have HBW := Lib.hid (HBY.out w6)
      rcases hb : c.byYears
      ·rw [hb] at HBW
       clear hb
       go_wp2_with fail
       go_at_call 27
       refine HBW.out.mono ?_
       rintro e w7 ⟨rfl, x7⟩
       have X7 := Lib.hid (X6.out.trans x7)
       clear x7 hld
       go_wp2_with fail
       go_ret
       exact ⟨rfl, X7.out⟩
      ·rw [hb] at HBW
       have hnx := HNX.out hb
       have hz := HFL.out p m
       rw [hnx] at hz
       have hs := HS.out
       have hz2 : firesL C n p (m + 1) = ([], 1) := by rw [hz]; rfl
       rw [hz2] at hs
       simp only [List.append_nil] at hs
       injection hs with hs1 hs2
       have hgl2 : gl = i := by rw [HGL.out, HLI.out, hs1]
       subst hs2
       subst hgl2
       clear hb hnx hz hz2 hs1 HS HNX
       go_wp2_with fail
       go_at_call 27
       refine HBW.out.mono ?_
       rintro e w7 ⟨rfl, x7⟩
       have X7 := Lib.hid (X6.out.trans x7)
       clear x7 hld
       go_wp2_with fail
       go_ret
       exact ⟨by first | rfl | simp, X7.out⟩
    ·rw [hm] at HMSp
     clear hm HLp
     have hpl2 : p ≤ 7258118399999999999 := HPL.out
     clear hpl
     go_wp2_with fail
     go_at_call 25
     refine HMSp.out.mono ?_
     rintro e w5 ⟨rfl, x5⟩
     go_wp2_with fail
     go_ret
     exact ⟨rfl, XR.out.trans x5⟩
end Go.Proofs.YtmaffdhcmdhjfaaGreatDoor
namespace Go.Proofs.YtmaffdhcmdhjfaaGreatDoor.FnFires
open Go.ChangeShapes Go.WideShapes Go.ChangeAt Go.RowKit
set_option linter.unusedVariables false
theorem door_met (os : Os) (args : Array Value) : laidMetH Tryz.prog laid8 ((World.doorLaid Tryz.prog 119 os).forCall (fun _ _ => 0) ⟨#[], args, []⟩).memory :=
 laidMetH_of_parts3 (fuel := 8) (laidMet_of_run' 8 (by kernel_rfl) (by kernel_rfl)) (by kernel_rfl) (by kernel_rfl)
set_option maxRecDepth 1000000 in
theorem lifted (os : Os) (started : os.Started) (H : Type) (enc : TypeId × Value → H) :
 ReturnsInHanded {} Tryz.checked os 11 .any (fun w args => (Rows.fnFiresSpec.pre enc Tryz.prog Tryz.f11 [] false w args ∧ laidMetH Tryz.prog laid8 w) ∧ sizedMet enc Tryz.prog Tryz.f11 (OpenSpec.ofChange Rows.fnFiresSpec) false w args)
  (Rows.fnFiresSpec.post enc Tryz.prog Tryz.f11 false true false false) := by
 refine returnsInHanded_of_change_and (C := Tryz.checked) (X := fun w _ => laidMetH Tryz.prog laid8 w) (fun _ _ _ hh h => h.of_heap hh) own started (by kernel_rfl) Tryz.func11
  (ChangeSpec.witness_shaped (enc := enc) (C := Tryz.checked) (os := os) (X := fun w _ => laidMetH Tryz.prog laid8 w) false (World.doorLaid Tryz.prog 119 os) #[.agg #[.int .i64 0, .int .i64 0, .int .i64 0, .int .i64 0, .int .i64 0, .slice none 0 0, .int .i64 0, .int .i64 0, .int .i64 0, .int .i64 0, .int .i64 0, .slice none 0 0, .int .i64 0, .int .i64 0, .int .i64 0, .int .i64 0, .int .i64 0, .slice none 0 0, .int .i64 0, .int .i64 0, .int .i64 0, .int .i64 0, .int .i64 0, .slice none 0 0, .int .i64 0, .int .i64 0, .int .i64 0, .int .i64 0, .int .i64 0, .slice none 0 0, .int .i64 0, .int .i64 0, .int .i64 0, .int .i64 0, .int .i64 0, .slice none 0 0, .int .i64 0, .int .i64 0, .int .i64 0, .int .i64 0, .int .i64 0, .slice none 0 0, .bool false], .int .i64 0, .int .i64 0, .int .i64 0] 16 rfl (World.shaped_of_RefB (by kernel_rfl) (by kernel_rfl)) (by kernel_rfl) (by kernel_rfl) (by kernel_rfl) (door_met os _)) ?_
 intro W base args ds gs0 before hval0 hW _ _ hL _
 have hval : ∀ (j : Nat) t v, Tryz.f11.params[j]? = some t → args[j]? = some v → Value.okWide Tryz.prog W .any base t v := hval0
 have hW' := hW
 obtain ⟨p, q, hA0, hV0, rfl, hfz, hnd⟩ := hW
 have hA : DataW.TrodAll enc Tryz.prog W 0 (fun _ => true) true Tryz.f11.params.toList args.toList ds p := hA0
 rw [Tryz.params11] at hA hval
 obtain ⟨v0, vs0, d0, ds0, p0, q0, hargs, rfl, rfl, h0, r0⟩ := trodAll_cons hA
 obtain ⟨v1, vs1, d1, ds1, p1, q1, rfl, rfl, rfl, h1, r1⟩ := trodAll_cons r0
 obtain ⟨v2, vs2, d2, ds2, p2, q2, rfl, rfl, rfl, h2, r2⟩ := trodAll_cons r1
 obtain ⟨v3, vs3, d3, ds3, p3, q3, rfl, rfl, rfl, h3, r3⟩ := trodAll_cons r2
 obtain ⟨rfl, rfl, rfl⟩ := trodAll_nil r3
 obtain rfl : args = #[v0, v1, v2, v3] := by cases args; simp_all
 obtain ⟨c, rfl, hcin, hcit⟩ := open_cron (hval 0 27 v0 rfl rfl) h0
 obtain ⟨n, rfl, rfl, rfl, w1⟩ := open_int Tryz.underlying3 (hval 1 3 v1 rfl rfl) h1
 obtain ⟨prev, rfl, rfl, rfl, w2⟩ := open_int Tryz.underlying2 (hval 2 2 v2 rfl rfl) h2
 obtain ⟨k, rfl, rfl, rfl, w3⟩ := open_int Tryz.underlying3 (hval 3 3 v3 rfl rfl) h3
 have hg : gs0.length = 3 := vars_len _ _ _ hV0
 have hE : EnvN W := ⟨(env_of8 hL).1, (env_of8 hL).2⟩
 refine (law_fires c hcin n prev k W hcit hE).mono fun e W' ⟨he, hb⟩ => ?_
 subst he
 refine ⟨_, rfl, law_post hW' hb (by kernel_rfl) (by kernel_rfl) (by kernel_rfl) ?_⟩
 match gs0, hg with
 | [g1, g2, g3], _ => rfl
theorem over : Rows.FnFiresSaid :=
 OpenClaim.holds_of_wide 11 Tryz.f11 rfl rfl rfl rfl rfl rfl rfl ⟨rfl, rfl, rfl, rfl, rfl⟩ rfl rfl rfl rfl rfl (by kernel_rfl) Tryz.func11 (by kernel_rfl)
  (of_decide_eq_true (by kernel_rfl)) (by unfold Func.isWrapper; first | (rw [if_pos (by decide +kernel)]; kernel_rfl) | (rw [if_neg (by decide +kernel)]; exact ⟨rfl, rfl⟩))
  (fun os started H enc _ => lifted os started H enc)
theorem card : Rows.FnFiresCardSaid :=
 Claim7.holds_tied_plain_at .later [] [.data, .data, .data, .sentinel, .sentinel, .sentinel, .sentinel, .sentinel] true (true, "ab0e5451898ba7af3fddb4ece5cff62e140668e4d854a8b8f5ee08cd0b170de1") true
  over (fun _ h => by cases h) (by kernel_rfl) (fun _ h => by cases h) fnFires_row_tie rfl ⟨rfl, rfl⟩ (by kernel_rfl) rfl
  (fun f fn hf hfn => by
    obtain rfl : f = 11 := Option.some.inj ((show Tryz.prog.funcNamed "loop.example/pub-g03356/laws.FnFires" = some 11 by kernel_rfl).symm.trans hf) |>.symm
    obtain rfl : fn = Tryz.f11 := (Option.some.inj (Tryz.func11.symm.trans hfn)).symm
    exact ⟨by kernel_rfl, fun j t ht => by
     rw [Tryz.params11] at ht
     have hm : t ∈ [27, 3, 2, 3] := by simpa using Array.mem_of_getElem? ht
     have hall : ([27, 3, 2, 3].all fun u => !Tryz.prog.wantsStandIn u) = true := by kernel_rfl
     exact (show Tryz.prog.wantsStandIn t = false by simpa using List.all_eq_true.1 hall t hm)⟩)
  (by kernel_rfl)
#print axioms card
end Go.Proofs.YtmaffdhcmdhjfaaGreatDoor.FnFires
