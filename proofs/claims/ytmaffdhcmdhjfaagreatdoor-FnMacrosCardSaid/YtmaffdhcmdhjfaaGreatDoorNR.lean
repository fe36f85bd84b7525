/- The machine of package csm: next. The machine of package csm: a block beside it that is kept; the walk of findForward. The machine of package csm: findForward is Csm.forward. The machine of package csm: findForward, ZZValue, NextTriggerTime. -/
import Derived.Test.YtmaffdhcmdhjfaaGreatDoorNQ
set_option linter.unusedSimpArgs false
set_option linter.unusedVariables false
namespace Go.Proofs.YtmaffdhcmdhjfaaGreatDoor
open Go.RowKit Go.Lib
theorem rounds_step (c : Csm.Cfg) (n : Nat) (st : Csm.St) : Csm.dayRounds c (n + 1) st = if (Csm.dayRound c st).d ≤ Cal.mlen (Csm.dayRound c st).y (Csm.dayRound c st).m then Csm.dayRound c st else Csm.dayRounds c n (Csm.dayRound c st) := rfl
def Rel (c : Csm.Cfg) (b : Int) (R : Csm.St) (k : Nat) (bb : Bool) (st : Csm.St) : Prop :=
 ∃ n : Nat, SaneSt c (b + 2 * (40 - n)) st ∧ n ≤ 40 ∧ (bb = true → (31 - st.d).toNat < n ∧ (31 - st.d).toNat + 2 ≤ k ∧ Csm.dayRounds c n st = R) ∧ (bb = false → st = R)
theorem Rel.next {c : Csm.Cfg} (h : MacOk c) {b : Int} (b0 : 900000 ≤ b) (b1 : b ≤ 999800) {R : Csm.St} {k : Nat} {st : Csm.St} (hr : Rel c b R k true st) :
 2 ≤ k ∧ (∃ b', 900000 ≤ b' ∧ b' ≤ 999960 ∧ SaneSt c b' st ∧ SaneSt c (b' + 2) (Csm.dayRound c st)) ∧
 (decide ((Csm.dayRound c st).d ≤ Cal.mlen (Csm.dayRound c st).y (Csm.dayRound c st).m) = false → Rel c b R (k - 1) true (Csm.dayRound c st)) ∧
 (decide ((Csm.dayRound c st).d ≤ Cal.mlen (Csm.dayRound c st).y (Csm.dayRound c st).m) = true → Rel c b R (k - 1) false (Csm.dayRound c st)) := by
 obtain ⟨n, hs, hn, h1, _⟩ := hr
 obtain ⟨a1, a2, a3⟩ := h1 rfl
 obtain ⟨n', rfl⟩ : ∃ n', n = n' + 1 := ⟨n - 1, by omega⟩
 have hstep := rounds_step c n' st
 rw [a3] at hstep
 have hsr := dayRound_sane h (b := b + 2 * (40 - ((n' + 1 : Nat) : Int))) (by omega) (by omega) hs
 have hb : b + 2 * (40 - ((n' + 1 : Nat) : Int)) + 2 = b + 2 * (40 - ((n' : Nat) : Int)) := by omega
 have hs2 : SaneSt c (b + 2 * (40 - ((n' : Nat) : Int))) (Csm.dayRound c st) := by rw [← hb]; exact hsr.1
 refine ⟨by omega, ⟨_, by omega, by omega, hs, hsr.1⟩, fun hv => ?_, fun hv => ?_⟩
 ·have hv' : ¬ (Csm.dayRound c st).d ≤ Cal.mlen (Csm.dayRound c st).y (Csm.dayRound c st).m := by simpa using hv
  have hlt : st.d < (Csm.dayRound c st).d := by
   rcases hsr.2 with h | h
   ·exact absurd h hv'
   ·exact h
  rw [if_neg hv'] at hstep
  have := hs.d1
  have := hs2.d1
  exact ⟨n', hs2, by omega, fun _ => ⟨by omega, by omega, hstep.symm⟩, fun h => by cases h⟩
 ·have hv' : (Csm.dayRound c st).d ≤ Cal.mlen (Csm.dayRound c st).y (Csm.dayRound c st).m := by simpa using hv
  rw [if_pos hv'] at hstep
  exact ⟨n', hs2, by omega, (fun h => by cases h), fun _ => hstep.symm⟩
set_option maxHeartbeats 6400000 in
set_option maxRecDepth 1000000 in
theorem mach_next {P : MacIs} {c : Csm.Cfg} {Q : Csm.St → World → Prop} (hQ : MacS P c Q) {b : Int} (b0 : 900000 ≤ b) (b1 : b ≤ 999800) (st : Csm.St) (hs : SaneSt c b st) (t0 : -100 ≤ st.s ∧ st.s ≤ 1000) (t1 : -100 ≤ st.mi ∧ st.mi ≤ 1000) (t2 : -100 ≤ st.h ∧ st.h ≤ 1000) (w : World) (h : Q st w) :
 Calls Tryz.prog 144 #[.pointer (some ⟨P.B, 0, none⟩)] w fun e w' => e = .returned (.tuple #[]) ∧ Q (Csm.stepNext c st) w' := by
 obtain ⟨st1, hst1⟩ : ∃ x, x = { st with s := (Csm.cnext 0 59 c.S st.s).1 } := ⟨_, rfl⟩
 obtain ⟨st2, hst2⟩ : ∃ x, x = { st1 with mi := (Csm.cnext 0 59 c.Mi st.mi).1 } := ⟨_, rfl⟩
 obtain ⟨st3, hst3⟩ : ∃ x, x = { st2 with h := (Csm.cnext 0 59 c.H st.h).1 } := ⟨_, rfl⟩
 obtain ⟨o1, ho1⟩ : ∃ x, x = (Csm.cnext 0 59 c.S st.s).2 := ⟨_, rfl⟩
 obtain ⟨o2, ho2⟩ : ∃ x, x = (Csm.cnext 0 59 c.Mi st.mi).2 := ⟨_, rfl⟩
 obtain ⟨o3, ho3⟩ : ∃ x, x = (Csm.cnext 0 59 c.H st.h).2 := ⟨_, rfl⟩
 obtain ⟨R, hR⟩ : ∃ R, R = Csm.stepNext c st := ⟨_, rfl⟩
 rw [← hR]
 have HE : Hid (R = if o1 = false then st1 else if o2 = false then st2 else if o3 = false then st3 else Csm.dayRounds c 40 st3) := by
  show _ = _
  rw [hR]
  unfold Csm.stepNext
  simp only
  rw [ho1, ho2, ho3, hst3, hst2, hst1]
  cases (Csm.cnext 0 59 c.S st.s).2 <;> cases (Csm.cnext 0 59 c.Mi st.mi).2 <;> cases (Csm.cnext 0 59 c.H st.h).2 <;> simp
 have H1 : Hid (∀ W, Q st W → Calls Tryz.prog 194 #[.pointer (some ⟨P.s, 0, none⟩)] W fun e w' => e = .returned (.bool o1) ∧ Q st1 w') := fun W hW => by
  rw [ho1, hst1]
  exact node_next (hQ.nS st) st.s t0.1 (by have := t0.2; omega) W hW
 have H2 : Hid (∀ W, Q st1 W → Calls Tryz.prog 194 #[.pointer (some ⟨P.mi, 0, none⟩)] W fun e w' => e = .returned (.bool o2) ∧ Q st2 w') := fun W hW => by
  rw [ho2, hst2]
  exact node_next (hQ.nMi st1) st.mi t1.1 (by have := t1.2; omega) W (by rw [hst1] at hW ⊢; exact hW)
 have H3 : Hid (∀ W, Q st2 W → Calls Tryz.prog 194 #[.pointer (some ⟨P.h, 0, none⟩)] W fun e w' => e = .returned (.bool o3) ∧ Q st3 w') := fun W hW => by
  rw [ho3, hst3]
  exact node_next (hQ.nH st2) st.h t2.1 (by have := t2.2; omega) W (by rw [hst2, hst1] at hW ⊢; exact hW)
 have HREL : Hid (Csm.dayRounds c 40 st3 = R → Rel c b R 100 true st3) := by
  intro he
  have hs3 : SaneSt c b st3 := by rw [hst3, hst2, hst1]; exact ⟨hs.y0, hs.y1, hs.m0, hs.m1, hs.d0, hs.d1, hs.dv⟩
  have := hs3.d0
  have := hs3.d1
  have e : b + 2 * (40 - ((40 : Nat) : Int)) = b := by omega
  exact ⟨40, by rw [e]; exact hs3, by omega, fun _ => ⟨by omega, by omega, he⟩, fun h => by cases h⟩
 have c0 := (hQ.cs _ _ h).s
 have v1 := m_next ⟨P.s, 0, none⟩
 have v2 := m_next ⟨P.mi, 0, none⟩
 have v3 := m_next ⟨P.h, 0, none⟩
 have v4 := m_next ⟨P.p.M, 0, none⟩
 have v5 := m_next ⟨P.p.Y, 0, none⟩
 have H0 := Lib.hid h
 clear h hst1 hst2 hst3 ho1 ho2 ho3 hR hs t0 t1 t2
 go_enter Tryz.func144, Tryz.ntmps144
 go_wp2_with fail
 go_at_call 194
 refine (H1.out _ H0.out).mono ?_
 rintro e w1 ⟨rfl, h1⟩
 have c1 := (hQ.cs _ _ h1).mi
 have HA := Lib.hid h1
 clear h1 c0
 rcases o1
 ·have HEE : Hid (st1 = R) := by show _ = _; rw [HE.out]; rfl
  go_wp2_with fail
  refine bodyPost_ret (results_none rfl _ _ _) rfl ?_
  exact ⟨rfl, by rw [← HEE.out]; exact HA.out⟩
 ·go_wp2_with fail
  go_at_call 194
  refine (H2.out _ HA.out).mono ?_
  rintro e w2 ⟨rfl, h2⟩
  have c2 := (hQ.cs _ _ h2).h
  have HB := Lib.hid h2
  clear h2 c1
  rcases o2
  ·have HEE : Hid (st2 = R) := by show _ = _; rw [HE.out]; rfl
   go_wp2_with fail
   refine bodyPost_ret (results_none rfl _ _ _) rfl ?_
   exact ⟨rfl, by rw [← HEE.out]; exact HB.out⟩
  ·go_wp2_with fail
   go_at_call 194
   refine (H3.out _ HB.out).mono ?_
   rintro e w3 ⟨rfl, h3⟩
   have HC := Lib.hid h3
   clear h3 c2
   rcases o3
   ·have HEE : Hid (st3 = R) := by show _ = _; rw [HE.out]; rfl
    go_wp2_with fail
    refine bodyPost_ret (results_none rfl _ _ _) rfl ?_
    exact ⟨rfl, by rw [← HEE.out]; exact HC.out⟩
   ·have HR0 := Lib.hid (HREL.out (by rw [HE.out]; rfl))
    clear HE HREL H1 H2 H3
    go_wp2_with fail
    go_loopg [2] 100 (fun k v2 wr => ∃ (bb : Bool) (sk : Csm.St), v2 = .bool bb ∧ Hid (Q sk wr) ∧ Hid (Rel c b R k bb sk))
    case atStart => exact ⟨true, st3, rfl, HC.out, HR0.out⟩
    case round =>
     obtain ⟨bb, sk, rfl, HQ, HR⟩ := hrel
     rcases bb
     ·have HEE : Hid (sk = R) := by obtain ⟨n, _, _, _, h2⟩ := HR.out; exact h2 rfl
      go_wp2_with fail
      go_end0
      exact ⟨rfl, by rw [← HEE.out]; exact HQ.out⟩
     ·obtain ⟨hk2, ⟨b', hb0, hb1, hss, hssR⟩, hend0, hend1⟩ := HR.out.next hQ.ok b0 b1
      obtain ⟨s1, s2, s3, p1, p2, p3, q2, q3, hRo⟩ := round_of hQ hb0 hb1 hss
      have HRo := Lib.hid hRo
      have H162 : Hid (∀ W, Q (Csm.dayRound c sk) W → Calls Tryz.prog 162 #[.pointer (some ⟨P.B, 0, none⟩)] W fun e w' => e = .returned (.bool (decide ((Csm.dayRound c sk).d ≤ Cal.mlen (Csm.dayRound c sk).y (Csm.dayRound c sk).m))) ∧ Q (Csm.dayRound c sk) w') := fun W hW =>
       valid_date hQ _ hssR (by omega) W hW
      have HEND0 := Lib.hid hend0
      have HEND1 := Lib.hid hend1
      have HQQ := Lib.hid hQ
      have E1 := Lib.hid hRo.e1
      have E2 := Lib.hid hRo.e2
      have E3 := Lib.hid hRo.e3
      have E4 := Lib.hid hRo.e4
      have R1 := Lib.hid hRo.h165m
      have R2 := Lib.hid hRo.h165y
      generalize Csm.dayRound c sk = sR at *
      have a3 := (hQ.cs _ _ HQ.out).d
      clear hend0 hend1 hss hssR hRo HR hb0 hb1
      go_wp2_with fail
      go_at_call 163
      refine (HRo.out.h163 _ HQ.out).mono ?_
      rintro e wA1 ⟨rfl, hA1⟩
      have cA1 := hQ.cs _ _ hA1
      have a3 := cA1.d
      have a4 := cA1.m
      have a5 := cA1.y
      have HA1 := Lib.hid hA1
      clear hA1 cA1
      rcases p1
      ·have HW : Hid (Q sR wA1) := by show Q sR wA1; rw [← E1.out (by first | rfl | trivial)]; exact HA1.out
       go_wp2_with fail
       go_at_call 162
       refine (H162.out _ HW.out).mono ?_
       rintro e wz ⟨rfl, hz⟩
       have HZ := Lib.hid hz
       clear hz
       rcases hv : decide (sR.d ≤ Cal.mlen sR.y sR.m)
       ·have HX := Lib.hid (HEND0.out hv)
        clear hv
        go_wp2_with fail
        go_roundg (gk - 1)
        case measure => omega
        case rel => exact ⟨true, sR, rfl, HZ.out, HX.out⟩
       ·have HX := Lib.hid (HEND1.out hv)
        clear hv
        go_wp2_with fail
        go_roundg (gk - 1)
        case measure => omega
        case rel => exact ⟨false, sR, rfl, HZ.out, HX.out⟩
      ·go_wp2_with fail
       go_at_call 194
       refine (HRo.out.h194m _ HA1.out).mono ?_
       rintro e wA2 ⟨rfl, hA2⟩
       have cA2 := hQ.cs _ _ hA2
       have a3 := cA2.d
       have a4 := cA2.m
       have a5 := cA2.y
       have HA2 := Lib.hid hA2
       clear hA2 cA2
       rcases p2
       ·go_wp2_with fail
        go_at_call 164
        refine (HRo.out.h164m _ HA2.out).mono ?_
        rintro e wA4 ⟨rfl, hA4⟩
        have cA4 := hQ.cs _ _ hA4
        have a3 := cA4.d
        have a4 := cA4.m
        have a5 := cA4.y
        have HA4 := Lib.hid hA4
        clear hA4 cA4
        rcases q2
        ·go_wp2_with fail
         go_at_call 165
         refine (R1.out (by first | rfl | trivial) (by first | rfl | trivial) (by first | rfl | trivial) _ HA4.out).mono ?_
         rintro e wr5 ⟨rfl, hr5⟩
         have HW := Lib.hid hr5
         clear hr5
         go_wp2_with fail
         go_at_call 162
         refine (H162.out _ HW.out).mono ?_
         rintro e wz ⟨rfl, hz⟩
         have HZ := Lib.hid hz
         clear hz
         rcases hv : decide (sR.d ≤ Cal.mlen sR.y sR.m)
         ·have HX := Lib.hid (HEND0.out hv)
          clear hv
          go_wp2_with fail
          go_roundg (gk - 1)
          case measure => omega
          case rel => exact ⟨true, sR, rfl, HZ.out, HX.out⟩
         ·have HX := Lib.hid (HEND1.out hv)
          clear hv
          go_wp2_with fail
          go_roundg (gk - 1)
          case measure => omega
          case rel => exact ⟨false, sR, rfl, HZ.out, HX.out⟩
        ·have HW : Hid (Q sR wA4) := by show Q sR wA4; rw [← E2.out (by first | rfl | trivial) (by first | rfl | trivial) (by first | rfl | trivial)]; exact HA4.out
         go_wp2_with fail
         go_at_call 162
         refine (H162.out _ HW.out).mono ?_
         rintro e wz ⟨rfl, hz⟩
         have HZ := Lib.hid hz
         clear hz
         rcases hv : decide (sR.d ≤ Cal.mlen sR.y sR.m)
         ·have HX := Lib.hid (HEND0.out hv)
          clear hv
          go_wp2_with fail
          go_roundg (gk - 1)
          case measure => omega
          case rel => exact ⟨true, sR, rfl, HZ.out, HX.out⟩
         ·have HX := Lib.hid (HEND1.out hv)
          clear hv
          go_wp2_with fail
          go_roundg (gk - 1)
          case measure => omega
          case rel => exact ⟨false, sR, rfl, HZ.out, HX.out⟩
       ·go_wp2_with fail
        go_at_call 194
        refine (HRo.out.h194y _ HA2.out).mono ?_
        rintro e wA3 ⟨rfl, hA3⟩
        have cA3 := hQ.cs _ _ hA3
        have a3 := cA3.d
        have a4 := cA3.m
        have a5 := cA3.y
        have HA3 := Lib.hid hA3
        clear hA3 cA3
        rcases p3
        ·go_wp2_with fail
         go_at_call 164
         refine (HRo.out.h164y _ HA3.out).mono ?_
         rintro e wA5 ⟨rfl, hA5⟩
         have cA5 := hQ.cs _ _ hA5
         have a3 := cA5.d
         have a4 := cA5.m
         have a5 := cA5.y
         have HA5 := Lib.hid hA5
         clear hA5 cA5
         rcases q3
         ·go_wp2_with fail
          go_at_call 165
          refine (R2.out (by first | rfl | trivial) (by first | rfl | trivial) (by first | rfl | trivial) (by first | rfl | trivial) _ HA5.out).mono ?_
          rintro e wr5 ⟨rfl, hr5⟩
          have HW := Lib.hid hr5
          clear hr5
          go_wp2_with fail
          go_at_call 162
          refine (H162.out _ HW.out).mono ?_
          rintro e wz ⟨rfl, hz⟩
          have HZ := Lib.hid hz
          clear hz
          rcases hv : decide (sR.d ≤ Cal.mlen sR.y sR.m)
          ·have HX := Lib.hid (HEND0.out hv)
           clear hv
           go_wp2_with fail
           go_roundg (gk - 1)
           case measure => omega
           case rel => exact ⟨true, sR, rfl, HZ.out, HX.out⟩
          ·have HX := Lib.hid (HEND1.out hv)
           clear hv
           go_wp2_with fail
           go_roundg (gk - 1)
           case measure => omega
           case rel => exact ⟨false, sR, rfl, HZ.out, HX.out⟩
         ·have HW : Hid (Q sR wA5) := by show Q sR wA5; rw [← E3.out (by first | rfl | trivial) (by first | rfl | trivial) (by first | rfl | trivial) (by first | rfl | trivial)]; exact HA5.out
          go_wp2_with fail
          go_at_call 162
          refine (H162.out _ HW.out).mono ?_
          rintro e wz ⟨rfl, hz⟩
          have HZ := Lib.hid hz
          clear hz
          rcases hv : decide (sR.d ≤ Cal.mlen sR.y sR.m)
          ·have HX := Lib.hid (HEND0.out hv)
           clear hv
           go_wp2_with fail
           go_roundg (gk - 1)
           case measure => omega
           case rel => exact ⟨true, sR, rfl, HZ.out, HX.out⟩
          ·have HX := Lib.hid (HEND1.out hv)
           clear hv
           go_wp2_with fail
           go_roundg (gk - 1)
           case measure => omega
           case rel => exact ⟨false, sR, rfl, HZ.out, HX.out⟩
        ·have HW : Hid (Q sR wA3) := by show Q sR wA3; rw [← E4.out (by first | rfl | trivial) (by first | rfl | trivial) (by first | rfl | trivial)]; exact HA3.out
         go_wp2_with fail
         go_at_call 162
         refine (H162.out _ HW.out).mono ?_
         rintro e wz ⟨rfl, hz⟩
         have HZ := Lib.hid hz
         clear hz
         rcases hv : decide (sR.d ≤ Cal.mlen sR.y sR.m)
         ·have HX := Lib.hid (HEND0.out hv)
          clear hv
          go_wp2_with fail
          go_roundg (gk - 1)
          case measure => omega
          case rel => exact ⟨true, sR, rfl, HZ.out, HX.out⟩
         ·have HX := Lib.hid (HEND1.out hv)
          clear hv
          go_wp2_with fail
          go_roundg (gk - 1)
          case measure => omega
          case rel => exact ⟨false, sR, rfl, HZ.out, HX.out⟩
end Go.Proofs.YtmaffdhcmdhjfaaGreatDoor
namespace Go.Proofs.YtmaffdhcmdhjfaaGreatDoor
open Go.RowKit Go.Lib
theorem NodeS.keep {B : Nat} {lo hi : Int} {a : Option Addr} {cap : Nat} {l : List Int} {S : Int → World → Prop} (h : NodeS B lo hi a cap l S) {K : Nat} (hK : K ≠ B) (o : Obj) : NodeS B lo hi a cap l (fun v W => S v W ∧ W.heap[K]? = some o) :=
 ⟨fun v W hW => h.at_ v W hW.1, fun v W W' hW x => ⟨h.ext v W W' hW.1 x, by rw [Below.block x K (block_lt hW.2)]; exact hW.2⟩,
  fun v v' W hW => ⟨h.set v v' W hW.1, by rw [Below.heap_setCell W _ _ K hK]; exact hW.2⟩, h.len⟩
theorem DayS.keep {p : DayIs} {aM : Option Addr} {cM : Nat} {M : List Int} {aY : Option Addr} {cY : Nat} {Y : List Int} {S : Int → Int → Int → World → Prop} (h : DayS p aM cM M aY cY Y S) {K : Nat} (h1 : K ≠ p.B) (h2 : K ≠ p.M) (h3 : K ≠ p.Y) (o : Obj) :
 DayS p aM cM M aY cY Y (fun y m d W => S y m d W ∧ W.heap[K]? = some o) :=
 ⟨fun y m d W hW => h.at_ y m d W hW.1, fun y m d W W' hW x => ⟨h.ext y m d W W' hW.1 x, by rw [Below.block x K (block_lt hW.2)]; exact hW.2⟩,
  fun y m => (h.nD y m).keep h1 o, fun y d => (h.nM y d).keep h2 o, fun m d => (h.nY m d).keep h3 o, h.lW⟩
theorem MacS.keep {P : MacIs} {c : Csm.Cfg} {Q : Csm.St → World → Prop} (h : MacS P c Q) {K : Nat} (h1 : K ≠ P.s) (h2 : K ≠ P.mi) (h3 : K ≠ P.h) (h4 : K ≠ P.p.B) (h5 : K ≠ P.p.M) (h6 : K ≠ P.p.Y) (o : Obj) :
 MacS P c (fun st W => Q st W ∧ W.heap[K]? = some o) :=
 ⟨fun st W hW => h.cs st W hW.1, fun st W W' hW x => ⟨h.ext st W W' hW.1 x, by rw [Below.block x K (block_lt hW.2)]; exact hW.2⟩,
  fun hh mi s => (h.day hh mi s).keep h4 h5 h6 o, fun st => (h.nS st).keep h1 o, fun st => (h.nMi st).keep h2 o, fun st => (h.nH st).keep h3 o, h.lk, h.good⟩
theorem m_find (a : Addr) (w : World) : (method 334 146 (.pointer (some a)) "loop.example/pub-g03356/pub/csm.findForward").run Tryz.prog w = .ok (229, .pointer (some a)) w := by kernel_rfl
theorem d_find (a : Addr) (w : World) : (method 334 148 (.pointer (some a)) "loop.example/pub-g03356/pub/csm.findForward").run Tryz.prog w = .ok (185, .pointer (some a)) w := by kernel_rfl
structure Fwd (P : MacIs) (Q : Csm.St → World → Prop) (st R : Csm.St) (r : Nat → Int) (sF : Nat → Csm.St) : Prop where
 one : ∀ k, k < 6 → r k = 0 ∨ r k = 1 ∨ r k = 2
 z : ∀ k, k < 6 → r k = 0 → sF k = st
 f0 : ∀ W, Q st W → Calls Tryz.prog 229 #[.pointer (some ⟨P.p.Y, 0, none⟩)] W fun e w' => e = .returned (.int .i64 (r 0)) ∧ Q (sF 0) w'
 f1 : ∀ W, Q st W → Calls Tryz.prog 229 #[.pointer (some ⟨P.p.M, 0, none⟩)] W fun e w' => e = .returned (.int .i64 (r 1)) ∧ Q (sF 1) w'
 f2 : ∀ W, Q st W → Calls Tryz.prog 185 #[.pointer (some ⟨P.p.B, 0, none⟩)] W fun e w' => e = .returned (.int .i64 (r 2)) ∧ Q (sF 2) w'
 f3 : ∀ W, Q st W → Calls Tryz.prog 229 #[.pointer (some ⟨P.h, 0, none⟩)] W fun e w' => e = .returned (.int .i64 (r 3)) ∧ Q (sF 3) w'
 f4 : ∀ W, Q st W → Calls Tryz.prog 229 #[.pointer (some ⟨P.mi, 0, none⟩)] W fun e w' => e = .returned (.int .i64 (r 4)) ∧ Q (sF 4) w'
 f5 : ∀ W, Q st W → Calls Tryz.prog 229 #[.pointer (some ⟨P.s, 0, none⟩)] W fun e w' => e = .returned (.int .i64 (r 5)) ∧ Q (sF 5) w'
 rs : ∀ k : Nat, k < 6 → (∀ j, j < k → r j = 0) → r k ≠ 0 → ∃ s2, (∀ W, Q (sF k) W → Calls Tryz.prog 142 #[.pointer (some ⟨P.B, 0, none⟩), .int .i64 (4 - k)] W fun e w' => e = .returned (.tuple #[]) ∧ Q s2 w') ∧
  (r k = 1 → s2 = R) ∧ (r k = 2 → ∀ W, Q s2 W → Calls Tryz.prog 143 #[.pointer (some ⟨P.B, 0, none⟩), .int .i64 (6 - k)] W fun e w' => e = .returned (.tuple #[]) ∧ Q R w')
 fin : (∀ j, j < 6 → r j = 0) → ∀ W, Q st W → Calls Tryz.prog 144 #[.pointer (some ⟨P.B, 0, none⟩)] W fun e w' => e = .returned (.tuple #[]) ∧ Q R w'
 sel : ∀ (k : Int) W, -1 ≤ k → k ≤ 6 → Q st W → Calls Tryz.prog 141 #[.pointer (some ⟨P.B, 0, none⟩), .int .i64 k] W fun e w' => e = .returned (P.node k) ∧ Q st w'
 ext : ∀ W W', Q st W → Ext W W' → Q st W'
set_option maxHeartbeats 6400000 in
set_option maxRecDepth 1000000 in
theorem fwd_walk {P : MacIs} {Q : Csm.St → World → Prop} {st R : Csm.St} {r : Nat → Int} {sF : Nat → Csm.St} (w : World)
 (h : Q st (w.alloc (.cells #[.int .i64 5, .int .i64 4, .int .i64 3, .int .i64 2, .int .i64 1, .int .i64 0] 180)))
 (hK : ∀ s W, Q s W → W.heap[w.heap.size]? = some (.cells #[.int .i64 5, .int .i64 4, .int .i64 3, .int .i64 2, .int .i64 1, .int .i64 0] 180 (0, 0)))
 (hF : Fwd P Q st R r sF) :
 Calls Tryz.prog 112 #[.pointer (some ⟨P.B, 0, none⟩)] w fun e w' => e = .returned (.tuple #[]) ∧ Q R w' := by
 have H := Lib.hid h
 have HK := Lib.hid hK
 have HF := Lib.hid hF
 clear h hK hF
 go_enter Tryz.func112, Tryz.ntmps112
 go_wp2_with fail
 go_loopw [4, 5, 6, 10] (fun _ _ _ i wr => ∃ k : Nat, k ≤ 6 ∧ i = .int .i64 k ∧ Hid (Q st wr) ∧ Hid (∀ j, j < k → r j = 0)) (fun _ _ _ i _ => 6 - (RowKit.intOf i).toNat)
 case atStart => exact ⟨0, by omega, rfl, H.out, fun j hj => absurd hj (by omega)⟩
 case round =>
  obtain ⟨k, hk, rfl, HQ, HZ⟩ := hrel
  have hcell := fun i => Joins.cell_of_block (HK.out _ _ HQ.out) i
  have k0 := hcell 0
  have k1 := hcell 1
  have k2 := hcell 2
  have k3 := hcell 3
  have k4 := hcell 4
  have k5 := hcell 5
  clear hcell
  simp at k0 k1 k2 k3 k4 k5
  rcases (show k = 0 ∨ k = 1 ∨ k = 2 ∨ k = 3 ∨ k = 4 ∨ k = 5 ∨ k = 6 by omega) with rfl | rfl | rfl | rfl | rfl | rfl | rfl
  ·have v1 := m_find ⟨P.p.Y, 0, none⟩
   go_wp2_with fail
   go_at_call 141
   refine (HF.out.sel 5 _ (by omega) (by omega) HQ.out).mono ?_
   rintro e w1 ⟨rfl, h1⟩
   have H1 := Lib.hid h1
   clear h1
   rw [show P.node 5 = .iface 146 (.pointer (some ⟨P.p.Y, 0, none⟩)) from rfl]
   go_wp2_with fail
   go_at_call 229
   refine (HF.out.f0 _ H1.out).mono ?_
   rintro e w2 ⟨rfl, h2⟩
   have H2 := Lib.hid h2
   clear h2 k0 k1 k2 k3 k4 k5 v1
   rcases HF.out.one 0 (by omega) with hr | hr | hr
   ·have HN : Hid (Q st w2) := by show Q st w2; rw [← HF.out.z 0 (by omega) hr]; exact H2.out
    have HZ2 : Hid (∀ j, j < 1 → r j = 0) := fun j hj => by
     rcases Nat.lt_or_ge j 0 with hlt | hge
     ·exact HZ.out j hlt
     ·have : j = 0 := by omega
      subst this; exact hr
    rw [hr]
    clear hr HZ
    go_wp2_with fail
    go_roundw
    case rel => exact ⟨1, by omega, by first | rfl | go_num, HN.out, HZ2.out⟩
    case measure => simp [RowKit.intOf]
   ·obtain ⟨s2, a1, a2, a3⟩ := HF.out.rs 0 (by omega) HZ.out (by rw [hr]; decide)
    have A1 := Lib.hid (a1 _ H2.out)
    have A2 := Lib.hid (a2 hr)
    rw [hr]
    clear a1 a2 a3 hr HZ
    go_wp2_with fail
    go_at_call 142
    refine A1.out.mono ?_
    rintro e w3 ⟨rfl, h3⟩
    have H3 := Lib.hid h3
    clear h3
    go_wp2_with fail
    refine bodyPost_ret (results_none rfl _ _ _) rfl ?_
    exact ⟨rfl, by rw [← A2.out]; exact H3.out⟩
   ·obtain ⟨s2, a1, a2, a3⟩ := HF.out.rs 0 (by omega) HZ.out (by rw [hr]; decide)
    have A1 := Lib.hid (a1 _ H2.out)
    have A3 := Lib.hid (a3 hr)
    rw [hr]
    clear a1 a2 a3 hr HZ
    go_wp2_with fail
    go_at_call 142
    refine A1.out.mono ?_
    rintro e w3 ⟨rfl, h3⟩
    have H3 := Lib.hid h3
    clear h3
    go_wp2_with fail
    go_at_call 143
    refine (A3.out _ H3.out).mono ?_
    rintro e w4 ⟨rfl, h4⟩
    have H4 := Lib.hid h4
    clear h4
    go_wp2_with fail
    refine bodyPost_ret (results_none rfl _ _ _) rfl ?_
    exact ⟨rfl, H4.out⟩
  ·have v1 := m_find ⟨P.p.M, 0, none⟩
   go_wp2_with fail
   go_at_call 141
   refine (HF.out.sel 4 _ (by omega) (by omega) HQ.out).mono ?_
   rintro e w1 ⟨rfl, h1⟩
   have H1 := Lib.hid h1
   clear h1
   rw [show P.node 4 = .iface 146 (.pointer (some ⟨P.p.M, 0, none⟩)) from rfl]
   go_wp2_with fail
   go_at_call 229
   refine (HF.out.f1 _ H1.out).mono ?_
   rintro e w2 ⟨rfl, h2⟩
   have H2 := Lib.hid h2
   clear h2 k0 k1 k2 k3 k4 k5 v1
   rcases HF.out.one 1 (by omega) with hr | hr | hr
   ·have HN : Hid (Q st w2) := by show Q st w2; rw [← HF.out.z 1 (by omega) hr]; exact H2.out
    have HZ2 : Hid (∀ j, j < 2 → r j = 0) := fun j hj => by
     rcases Nat.lt_or_ge j 1 with hlt | hge
     ·exact HZ.out j hlt
     ·have : j = 1 := by omega
      subst this; exact hr
    rw [hr]
    clear hr HZ
    go_wp2_with fail
    go_roundw
    case rel => exact ⟨2, by omega, by first | rfl | go_num, HN.out, HZ2.out⟩
    case measure => simp [RowKit.intOf]
   ·obtain ⟨s2, a1, a2, a3⟩ := HF.out.rs 1 (by omega) HZ.out (by rw [hr]; decide)
    have A1 := Lib.hid (a1 _ H2.out)
    have A2 := Lib.hid (a2 hr)
    rw [hr]
    clear a1 a2 a3 hr HZ
    go_wp2_with fail
    go_at_call 142
    refine A1.out.mono ?_
    rintro e w3 ⟨rfl, h3⟩
    have H3 := Lib.hid h3
    clear h3
    go_wp2_with fail
    refine bodyPost_ret (results_none rfl _ _ _) rfl ?_
    exact ⟨rfl, by rw [← A2.out]; exact H3.out⟩
   ·obtain ⟨s2, a1, a2, a3⟩ := HF.out.rs 1 (by omega) HZ.out (by rw [hr]; decide)
    have A1 := Lib.hid (a1 _ H2.out)
    have A3 := Lib.hid (a3 hr)
    rw [hr]
    clear a1 a2 a3 hr HZ
    go_wp2_with fail
    go_at_call 142
    refine A1.out.mono ?_
    rintro e w3 ⟨rfl, h3⟩
    have H3 := Lib.hid h3
    clear h3
    go_wp2_with fail
    go_at_call 143
    refine (A3.out _ H3.out).mono ?_
    rintro e w4 ⟨rfl, h4⟩
    have H4 := Lib.hid h4
    clear h4
    go_wp2_with fail
    refine bodyPost_ret (results_none rfl _ _ _) rfl ?_
    exact ⟨rfl, H4.out⟩
  ·have v1 := d_find ⟨P.p.B, 0, none⟩
   go_wp2_with fail
   go_at_call 141
   refine (HF.out.sel 3 _ (by omega) (by omega) HQ.out).mono ?_
   rintro e w1 ⟨rfl, h1⟩
   have H1 := Lib.hid h1
   clear h1
   rw [show P.node 3 = .iface 148 (.pointer (some ⟨P.p.B, 0, none⟩)) from rfl]
   go_wp2_with fail
   go_at_call 185
   refine (HF.out.f2 _ H1.out).mono ?_
   rintro e w2 ⟨rfl, h2⟩
   have H2 := Lib.hid h2
   clear h2 k0 k1 k2 k3 k4 k5 v1
   rcases HF.out.one 2 (by omega) with hr | hr | hr
   ·have HN : Hid (Q st w2) := by show Q st w2; rw [← HF.out.z 2 (by omega) hr]; exact H2.out
    have HZ2 : Hid (∀ j, j < 3 → r j = 0) := fun j hj => by
     rcases Nat.lt_or_ge j 2 with hlt | hge
     ·exact HZ.out j hlt
     ·have : j = 2 := by omega
      subst this; exact hr
    rw [hr]
    clear hr HZ
    go_wp2_with fail
    go_roundw
    case rel => exact ⟨3, by omega, by first | rfl | go_num, HN.out, HZ2.out⟩
    case measure => simp [RowKit.intOf]
   ·obtain ⟨s2, a1, a2, a3⟩ := HF.out.rs 2 (by omega) HZ.out (by rw [hr]; decide)
    have A1 := Lib.hid (a1 _ H2.out)
    have A2 := Lib.hid (a2 hr)
    rw [hr]
    clear a1 a2 a3 hr HZ
    go_wp2_with fail
    go_at_call 142
    refine A1.out.mono ?_
    rintro e w3 ⟨rfl, h3⟩
    have H3 := Lib.hid h3
    clear h3
    go_wp2_with fail
    refine bodyPost_ret (results_none rfl _ _ _) rfl ?_
    exact ⟨rfl, by rw [← A2.out]; exact H3.out⟩
   ·obtain ⟨s2, a1, a2, a3⟩ := HF.out.rs 2 (by omega) HZ.out (by rw [hr]; decide)
    have A1 := Lib.hid (a1 _ H2.out)
    have A3 := Lib.hid (a3 hr)
    rw [hr]
    clear a1 a2 a3 hr HZ
    go_wp2_with fail
    go_at_call 142
    refine A1.out.mono ?_
    rintro e w3 ⟨rfl, h3⟩
    have H3 := Lib.hid h3
    clear h3
    go_wp2_with fail
    go_at_call 143
    refine (A3.out _ H3.out).mono ?_
    rintro e w4 ⟨rfl, h4⟩
    have H4 := Lib.hid h4
    clear h4
    go_wp2_with fail
    refine bodyPost_ret (results_none rfl _ _ _) rfl ?_
    exact ⟨rfl, H4.out⟩
  ·have v1 := m_find ⟨P.h, 0, none⟩
   go_wp2_with fail
   go_at_call 141
   refine (HF.out.sel 2 _ (by omega) (by omega) HQ.out).mono ?_
   rintro e w1 ⟨rfl, h1⟩
   have H1 := Lib.hid h1
   clear h1
   rw [show P.node 2 = .iface 146 (.pointer (some ⟨P.h, 0, none⟩)) from rfl]
   go_wp2_with fail
   go_at_call 229
   refine (HF.out.f3 _ H1.out).mono ?_
   rintro e w2 ⟨rfl, h2⟩
   have H2 := Lib.hid h2
   clear h2 k0 k1 k2 k3 k4 k5 v1
   rcases HF.out.one 3 (by omega) with hr | hr | hr
   ·have HN : Hid (Q st w2) := by show Q st w2; rw [← HF.out.z 3 (by omega) hr]; exact H2.out
    have HZ2 : Hid (∀ j, j < 4 → r j = 0) := fun j hj => by
     rcases Nat.lt_or_ge j 3 with hlt | hge
     ·exact HZ.out j hlt
     ·have : j = 3 := by omega
      subst this; exact hr
    rw [hr]
    clear hr HZ
    go_wp2_with fail
    go_roundw
    case rel => exact ⟨4, by omega, by first | rfl | go_num, HN.out, HZ2.out⟩
    case measure => simp [RowKit.intOf]
   ·obtain ⟨s2, a1, a2, a3⟩ := HF.out.rs 3 (by omega) HZ.out (by rw [hr]; decide)
    have A1 := Lib.hid (a1 _ H2.out)
    have A2 := Lib.hid (a2 hr)
    rw [hr]
    clear a1 a2 a3 hr HZ
    go_wp2_with fail
    go_at_call 142
    refine A1.out.mono ?_
    rintro e w3 ⟨rfl, h3⟩
    have H3 := Lib.hid h3
    clear h3
    go_wp2_with fail
    refine bodyPost_ret (results_none rfl _ _ _) rfl ?_
    exact ⟨rfl, by rw [← A2.out]; exact H3.out⟩
   ·obtain ⟨s2, a1, a2, a3⟩ := HF.out.rs 3 (by omega) HZ.out (by rw [hr]; decide)
    have A1 := Lib.hid (a1 _ H2.out)
    have A3 := Lib.hid (a3 hr)
    rw [hr]
    clear a1 a2 a3 hr HZ
    go_wp2_with fail
    go_at_call 142
    refine A1.out.mono ?_
    rintro e w3 ⟨rfl, h3⟩
    have H3 := Lib.hid h3
    clear h3
    go_wp2_with fail
    go_at_call 143
    refine (A3.out _ H3.out).mono ?_
    rintro e w4 ⟨rfl, h4⟩
    have H4 := Lib.hid h4
    clear h4
    go_wp2_with fail
    refine bodyPost_ret (results_none rfl _ _ _) rfl ?_
    exact ⟨rfl, H4.out⟩
  ·have v1 := m_find ⟨P.mi, 0, none⟩
   go_wp2_with fail
   go_at_call 141
   refine (HF.out.sel 1 _ (by omega) (by omega) HQ.out).mono ?_
   rintro e w1 ⟨rfl, h1⟩
   have H1 := Lib.hid h1
   clear h1
   rw [show P.node 1 = .iface 146 (.pointer (some ⟨P.mi, 0, none⟩)) from rfl]
   go_wp2_with fail
   go_at_call 229
   refine (HF.out.f4 _ H1.out).mono ?_
   rintro e w2 ⟨rfl, h2⟩
   have H2 := Lib.hid h2
   clear h2 k0 k1 k2 k3 k4 k5 v1
   rcases HF.out.one 4 (by omega) with hr | hr | hr
   ·have HN : Hid (Q st w2) := by show Q st w2; rw [← HF.out.z 4 (by omega) hr]; exact H2.out
    have HZ2 : Hid (∀ j, j < 5 → r j = 0) := fun j hj => by
     rcases Nat.lt_or_ge j 4 with hlt | hge
     ·exact HZ.out j hlt
     ·have : j = 4 := by omega
      subst this; exact hr
    rw [hr]
    clear hr HZ
    go_wp2_with fail
    go_roundw
    case rel => exact ⟨5, by omega, by first | rfl | go_num, HN.out, HZ2.out⟩
    case measure => simp [RowKit.intOf]
   ·obtain ⟨s2, a1, a2, a3⟩ := HF.out.rs 4 (by omega) HZ.out (by rw [hr]; decide)
    have A1 := Lib.hid (a1 _ H2.out)
    have A2 := Lib.hid (a2 hr)
    rw [hr]
    clear a1 a2 a3 hr HZ
    go_wp2_with fail
    go_at_call 142
    refine A1.out.mono ?_
    rintro e w3 ⟨rfl, h3⟩
    have H3 := Lib.hid h3
    clear h3
    go_wp2_with fail
    refine bodyPost_ret (results_none rfl _ _ _) rfl ?_
    exact ⟨rfl, by rw [← A2.out]; exact H3.out⟩
   ·obtain ⟨s2, a1, a2, a3⟩ := HF.out.rs 4 (by omega) HZ.out (by rw [hr]; decide)
    have A1 := Lib.hid (a1 _ H2.out)
    have A3 := Lib.hid (a3 hr)
    rw [hr]
    clear a1 a2 a3 hr HZ
    go_wp2_with fail
    go_at_call 142
    refine A1.out.mono ?_
    rintro e w3 ⟨rfl, h3⟩
    have H3 := Lib.hid h3
    clear h3
    go_wp2_with fail
    go_at_call 143
    refine (A3.out _ H3.out).mono ?_
    rintro e w4 ⟨rfl, h4⟩
    have H4 := Lib.hid h4
    clear h4
    go_wp2_with fail
    refine bodyPost_ret (results_none rfl _ _ _) rfl ?_
    exact ⟨rfl, H4.out⟩
  ·have v1 := m_find ⟨P.s, 0, none⟩
   go_wp2_with fail
   go_at_call 141
   refine (HF.out.sel 0 _ (by omega) (by omega) HQ.out).mono ?_
   rintro e w1 ⟨rfl, h1⟩
   have H1 := Lib.hid h1
   clear h1
   rw [show P.node 0 = .iface 146 (.pointer (some ⟨P.s, 0, none⟩)) from rfl]
   go_wp2_with fail
   go_at_call 229
   refine (HF.out.f5 _ H1.out).mono ?_
   rintro e w2 ⟨rfl, h2⟩
   have H2 := Lib.hid h2
   clear h2 k0 k1 k2 k3 k4 k5 v1
   rcases HF.out.one 5 (by omega) with hr | hr | hr
   ·have HN : Hid (Q st w2) := by show Q st w2; rw [← HF.out.z 5 (by omega) hr]; exact H2.out
    have HZ2 : Hid (∀ j, j < 6 → r j = 0) := fun j hj => by
     rcases Nat.lt_or_ge j 5 with hlt | hge
     ·exact HZ.out j hlt
     ·have : j = 5 := by omega
      subst this; exact hr
    rw [hr]
    clear hr HZ
    go_wp2_with fail
    go_roundw
    case rel => exact ⟨6, by omega, by first | rfl | go_num, HN.out, HZ2.out⟩
    case measure => simp [RowKit.intOf]
   ·obtain ⟨s2, a1, a2, a3⟩ := HF.out.rs 5 (by omega) HZ.out (by rw [hr]; decide)
    have A1 := Lib.hid (a1 _ H2.out)
    have A2 := Lib.hid (a2 hr)
    rw [hr]
    clear a1 a2 a3 hr HZ
    go_wp2_with fail
    go_at_call 142
    refine A1.out.mono ?_
    rintro e w3 ⟨rfl, h3⟩
    have H3 := Lib.hid h3
    clear h3
    go_wp2_with fail
    refine bodyPost_ret (results_none rfl _ _ _) rfl ?_
    exact ⟨rfl, by rw [← A2.out]; exact H3.out⟩
   ·obtain ⟨s2, a1, a2, a3⟩ := HF.out.rs 5 (by omega) HZ.out (by rw [hr]; decide)
    have A1 := Lib.hid (a1 _ H2.out)
    have A3 := Lib.hid (a3 hr)
    rw [hr]
    clear a1 a2 a3 hr HZ
    go_wp2_with fail
    go_at_call 142
    refine A1.out.mono ?_
    rintro e w3 ⟨rfl, h3⟩
    have H3 := Lib.hid h3
    clear h3
    go_wp2_with fail
    go_at_call 143
    refine (A3.out _ H3.out).mono ?_
    rintro e w4 ⟨rfl, h4⟩
    have H4 := Lib.hid h4
    clear h4
    go_wp2_with fail
    refine bodyPost_ret (results_none rfl _ _ _) rfl ?_
    exact ⟨rfl, H4.out⟩
  ·have HFI := Lib.hid (HF.out.fin HZ.out)
   clear k0 k1 k2 k3 k4 k5 HZ
   go_wp2_with fail
   go_at_call 144
   refine (HFI.out _ HQ.out).mono ?_
   rintro e w1 ⟨rfl, h1⟩
   have H1 := Lib.hid h1
   clear h1
   go_wp2_with fail
   go_end0
   exact ⟨rfl, H1.out⟩
end Go.Proofs.YtmaffdhcmdhjfaaGreatDoor
namespace Go.Proofs.YtmaffdhcmdhjfaaGreatDoor
open Go.RowKit Go.Lib
theorem cfind_cases (lo hi : Int) (l : List Int) (v : Int) :
 (Csm.cvalid lo hi l v = true ∧ cfind lo hi l v = (v, 0)) ∨ (Csm.cvalid lo hi l v = false ∧ (Csm.cnext lo hi l v).2 = false ∧ cfind lo hi l v = ((Csm.cnext lo hi l v).1, 1)) ∨
 (Csm.cvalid lo hi l v = false ∧ (Csm.cnext lo hi l v).2 = true ∧ cfind lo hi l v = ((Csm.cnext lo hi l v).1, 2)) := by
 unfold cfind
 cases Csm.cvalid lo hi l v <;> cases (Csm.cnext lo hi l v).2 <;> simp
theorem dfind_cases (c : Csm.Cfg) (y m d : Int) :
 (Csm.dvalid c y m d = true ∧ dfind c y m d = ((y, m, d), 0)) ∨ (Csm.dvalid c y m d = false ∧ (Csm.dayNext c y m d).2 = false ∧ dfind c y m d = ((Csm.dayNext c y m d).1, 1)) ∨
 (Csm.dvalid c y m d = false ∧ (Csm.dayNext c y m d).2 = true ∧ dfind c y m d = ((Csm.dayNext c y m d).1, 2)) := by
 unfold dfind
 cases Csm.dvalid c y m d <;> cases (Csm.dayNext c y m d).2 <;> simp
def rOf (c : Csm.Cfg) (st : Csm.St) : Nat → Int
 | 0 => (cfind 0 999999 c.Y st.y).2
 | 1 => (cfind 1 12 c.M st.m).2
 | 2 => (dfind c st.y st.m st.d).2
 | 3 => (cfind 0 59 c.H st.h).2
 | 4 => (cfind 0 59 c.Mi st.mi).2
 | _ => (cfind 0 59 c.S st.s).2
def sOf (c : Csm.Cfg) (st : Csm.St) : Nat → Csm.St
 | 0 => { st with y := (cfind 0 999999 c.Y st.y).1 }
 | 1 => { st with m := (cfind 1 12 c.M st.m).1 }
 | 2 => Csm.setDay st (dfind c st.y st.m st.d).1
 | 3 => { st with h := (cfind 0 59 c.H st.h).1 }
 | 4 => { st with mi := (cfind 0 59 c.Mi st.mi).1 }
 | _ => { st with s := (cfind 0 59 c.S st.s).1 }
theorem resetDays_ym {c : Csm.Cfg} (g : Csm.Good c) (s : Csm.St) (m0 : 1 ≤ s.m) (m1 : s.m ≤ 12) : (Csm.resetDays c s).y = s.y ∧ (Csm.resetDays c s).m = s.m := by
 obtain ⟨d, hd, _⟩ := Csm.dayReset_first g (y := s.y) m0 m1
 unfold Csm.resetDays
 rw [hd]
 exact ⟨rfl, rfl⟩
structure TimeOk (st : Csm.St) : Prop where
 s : -100 ≤ st.s ∧ st.s ≤ 900
 mi : -100 ≤ st.mi ∧ st.mi ≤ 900
 h : -100 ≤ st.h ∧ st.h ≤ 900
theorem cnext_59 {l : List Int} (hl : Csm.Lst 0 59 l) {v : Int} (v0 : -100 ≤ v) (v1 : v ≤ 900) : -100 ≤ (Csm.cnext 0 59 l v).1 ∧ (Csm.cnext 0 59 l v).1 ≤ 1000 := by
 unfold Csm.cnext
 split
 ·split <;> simp only <;> omega
 ·rename_i a t
  split
  ·rename_i x hx
   have hm := List.mem_of_find?_eq_some hx
   have := hl.low x hm
   have := hl.high x hm
   simp only; omega
  ·have := hl.low a (by simp)
   have := hl.high a (by simp)
   simp only; omega
set_option maxHeartbeats 1600000 in
theorem fwd_of {P : MacIs} {c : Csm.Cfg} {Q : Csm.St → World → Prop} (hQ : MacS P c Q) {b : Int} (b0 : 900000 ≤ b) (b1 : b ≤ 999800) {st : Csm.St} (hs : SaneSt c b st) (ht : TimeOk st) :
 Fwd P Q st (Csm.forward c st) (rOf c st) (sOf c st) := by
 have hy1 := hs.y1
 have hDay := hQ.day st.h st.mi st.s
 have hok := hQ.ok
 have hin : StIn st := ⟨hs.y0, by omega, hs.m0, hs.m1⟩
 have hdy : DayOk c st := ⟨by have := hs.d0; omega, by have := hs.d1; omega, fun hw hn => ⟨hs.d0, hs.dv hw hn⟩⟩
 have hyb := cnext_y (Y := c.Y) hok.y (y := st.y) hs.y0 (by omega)
 have hmb := cnext_m (M := c.M) hok.m (m := st.m) (by have := hs.m0; omega) hs.m1
 have hdb := dayNext_bd hQ (y := st.y) (m := st.m) (d := st.d) hs.y0 (by omega) hs.m0 hs.m1
 have hmlen := Cal.mlen_bd st.y st.m
 have cY := cfind_cases 0 999999 c.Y st.y
 have cM := cfind_cases 1 12 c.M st.m
 have cD := dfind_cases c st.y st.m st.d
 have cH := cfind_cases 0 59 c.H st.h
 have cMi := cfind_cases 0 59 c.Mi st.mi
 have cS := cfind_cases 0 59 c.S st.s
 have r0 : ∀ {lo hi l v}, (cfind lo hi l v).2 = 0 → Csm.cvalid lo hi l v = true ∧ (cfind lo hi l v).1 = v := by
  intro lo hi l v h
  rcases cfind_cases lo hi l v with ⟨a, e⟩ | ⟨_, _, e⟩ | ⟨_, _, e⟩
  ·exact ⟨a, by rw [e]⟩
  ·rw [e] at h; cases h
  ·rw [e] at h; cases h
 have rd0 : (dfind c st.y st.m st.d).2 = 0 → Csm.dvalid c st.y st.m st.d = true ∧ (dfind c st.y st.m st.d).1 = (st.y, st.m, st.d) := by
  intro h
  rcases cD with ⟨a, e⟩ | ⟨_, _, e⟩ | ⟨_, _, e⟩
  ·exact ⟨a, by rw [e]⟩
  ·rw [e] at h; cases h
  ·rw [e] at h; cases h
 refine ⟨?_, ?_, ?_, ?_, ?_, ?_, ?_, ?_, ?_, ?_, ?_, ?_⟩
 ·intro k hk
  rcases (show k = 0 ∨ k = 1 ∨ k = 2 ∨ k = 3 ∨ k = 4 ∨ k = 5 by omega) with rfl | rfl | rfl | rfl | rfl | rfl
  ·rcases cY with ⟨_, e⟩ | ⟨_, _, e⟩ | ⟨_, _, e⟩ <;> simp [rOf, e]
  ·rcases cM with ⟨_, e⟩ | ⟨_, _, e⟩ | ⟨_, _, e⟩ <;> simp [rOf, e]
  ·rcases cD with ⟨_, e⟩ | ⟨_, _, e⟩ | ⟨_, _, e⟩ <;> simp [rOf, e]
  ·rcases cH with ⟨_, e⟩ | ⟨_, _, e⟩ | ⟨_, _, e⟩ <;> simp [rOf, e]
  ·rcases cMi with ⟨_, e⟩ | ⟨_, _, e⟩ | ⟨_, _, e⟩ <;> simp [rOf, e]
  ·rcases cS with ⟨_, e⟩ | ⟨_, _, e⟩ | ⟨_, _, e⟩ <;> simp [rOf, e]
 ·intro k hk h
  rcases (show k = 0 ∨ k = 1 ∨ k = 2 ∨ k = 3 ∨ k = 4 ∨ k = 5 by omega) with rfl | rfl | rfl | rfl | rfl | rfl
  ·simp [sOf, (r0 h).2]
  ·simp [sOf, (r0 h).2]
  ·simp [sOf, (rd0 h).2, Csm.setDay]
  ·simp [sOf, (r0 h).2]
  ·simp [sOf, (r0 h).2]
  ·simp [sOf, (r0 h).2]
 ·intro W hW
  have := node_find (hDay.nY st.m st.d) st.y (by have := hs.y0; omega) (by omega) W hW
  rw [hQ.lk.eqY] at this
  exact this
 ·intro W hW
  have := node_find (hDay.nM st.y st.d) st.m (by have := hs.m0; omega) (by have := hs.m1; omega) W hW
  rw [hQ.lk.eqM] at this
  exact this
 ·intro W hW
  exact day_find hDay hQ.lk hQ.good st.y st.m st.d ⟨hs.y0, by omega, hs.m0, hs.m1, hdy.1, hdy.2.1⟩ (by omega) hdy.2.2 W hW
 ·intro W hW
  exact node_find (hQ.nH st) st.h ht.h.1 (by have := ht.h.2; omega) W hW
 ·intro W hW
  exact node_find (hQ.nMi st) st.mi ht.mi.1 (by have := ht.mi.2; omega) W hW
 ·intro W hW
  exact node_find (hQ.nS st) st.s ht.s.1 (by have := ht.s.2; omega) W hW
 ·intro k hk hz hne
  have hall := hz
  rcases (show k = 0 ∨ k = 1 ∨ k = 2 ∨ k = 3 ∨ k = 4 ∨ k = 5 by omega) with rfl | rfl | rfl | rfl | rfl | rfl
  ·obtain ⟨sk, hsk⟩ : ∃ sk, sk = { st with y := (Csm.cnext 0 999999 c.Y st.y).1 } := ⟨_, rfl⟩
   have hfwd : Csm.cvalid 0 999999 c.Y st.y = false → Csm.forward c st = Csm.resetMonths c sk := by
    intro hv
    unfold Csm.forward
    rw [hv, hsk]
    rfl
   rcases cY with ⟨_, e⟩ | ⟨hv, ho, e⟩ | ⟨hv, ho, e⟩
   ·exact absurd (by simp [rOf, e]) hne
   all_goals (
    have hfw := hfwd hv
    have hr2 : rOf c st 0 = _ := congrArg (·.2) e
    have hsf : sOf c st 0 = sk := by rw [hsk]; simp only [sOf, e]
    refine ⟨Csm.resetMonths c sk, fun W hW => ?_, fun h1 => ?_, fun h2 W hW => ?_⟩
    ·rw [hsf] at hW
     show Calls _ _ #[_, Value.int .i64 (4)] _ _
     exact reset_months hQ sk ⟨by rw [hsk]; exact hyb.1, by rw [hsk]; have := hyb.2; show (Csm.cnext 0 999999 c.Y st.y).1 ≤ 999980; omega, by rw [hsk]; exact hs.m0, by rw [hsk]; exact hs.m1⟩ W hW
    ·first
      | (exfalso; rw [hr2] at h1; simp at h1; done)
      | (rw [hfw])
    ·first
      | (exfalso; rw [hr2] at h2; simp at h2; done)
      | (show Calls _ _ #[_, Value.int .i64 (6)] _ _
         refine (over_none P W (hQ.cs _ _ hW)).mono ?_
         rintro e w' ⟨rfl, rfl⟩
         exact ⟨rfl, by rw [hfw]; exact hW⟩))
  ·have z0 := (r0 (hz 0 (by omega))).1
   obtain ⟨sk, hsk⟩ : ∃ sk, sk = { st with m := (Csm.cnext 1 12 c.M st.m).1 } := ⟨_, rfl⟩
   have hfwd : Csm.cvalid 1 12 c.M st.m = false → Csm.forward c st = if (Csm.cnext 1 12 c.M st.m).2 = true then Csm.ovYears c (Csm.resetDays c sk) else Csm.resetDays c sk := by
    intro hv
    unfold Csm.forward
    rw [hv, z0, hsk]
    rfl
   rcases cM with ⟨_, e⟩ | ⟨hv, ho, e⟩ | ⟨hv, ho, e⟩
   ·exact absurd (by simp [rOf, e]) hne
   all_goals (
    have hfw := hfwd hv
    have hr2 : rOf c st 1 = _ := congrArg (·.2) e
    have hsf : sOf c st 1 = sk := by rw [hsk]; simp only [sOf, e]
    refine ⟨Csm.resetDays c sk, fun W hW => ?_, fun h1 => ?_, fun h2 W hW => ?_⟩
    ·rw [hsf] at hW
     show Calls _ _ #[_, Value.int .i64 (3)] _ _
     exact reset_days hQ sk ⟨by rw [hsk]; exact hs.y0, by rw [hsk]; show st.y ≤ 999980; omega, by rw [hsk]; exact hmb.1, by rw [hsk]; exact hmb.2⟩ W hW
    ·first
      | (exfalso; rw [hr2] at h1; simp at h1; done)
      | (rw [hfw]; rw [ho]; rfl)
    ·first
      | (exfalso; rw [hr2] at h2; simp at h2; done)
      | (show Calls _ _ #[_, Value.int .i64 (5)] _ _
         have hym := resetDays_ym hQ.good sk (by rw [hsk]; exact hmb.1) (by rw [hsk]; exact hmb.2)
         have hy2 : (Csm.resetDays c sk).y = st.y := by rw [hym.1, hsk]
         have hm2 : (Csm.resetDays c sk).m = (Csm.cnext 1 12 c.M st.m).1 := by rw [hym.2, hsk]
         rw [hfw, ho]
         exact over_years hQ (Csm.resetDays c sk) ⟨by rw [hy2]; exact hs.y0, by rw [hy2]; omega, by rw [hm2]; exact hmb.1, by rw [hm2]; exact hmb.2⟩ (by rw [hy2]; omega) W hW))
  ·have z0 := (r0 (hz 0 (by omega))).1
   have z1 := (r0 (hz 1 (by omega))).1
   obtain ⟨sk, hsk⟩ : ∃ sk, sk = Csm.setDay st (Csm.dayNext c st.y st.m st.d).1 := ⟨_, rfl⟩
   have hfwd : Csm.dvalid c st.y st.m st.d = false → Csm.forward c st = if (Csm.dayNext c st.y st.m st.d).2 = true then Csm.ovMonths c (Csm.resetHours c sk) else Csm.resetHours c sk := by
    intro hv
    unfold Csm.forward
    rw [hv, z0, z1, hsk]
    rfl
   rcases cD with ⟨_, e⟩ | ⟨hv, ho, e⟩ | ⟨hv, ho, e⟩
   ·exact absurd (by simp [rOf, e]) hne
   all_goals (
    have hfw := hfwd hv
    have hr2 : rOf c st 2 = _ := congrArg (·.2) e
    have hsf : sOf c st 2 = sk := by rw [hsk]; simp only [sOf, e]
    refine ⟨Csm.resetHours c sk, fun W hW => ?_, fun h1 => ?_, fun h2 W hW => ?_⟩
    ·rw [hsf] at hW
     show Calls _ _ #[_, Value.int .i64 (2)] _ _
     exact reset_hours hQ _ W hW
    ·first
      | (exfalso; rw [hr2] at h1; simp at h1; done)
      | (rw [hfw]; rw [ho]; rfl)
    ·first
      | (exfalso; rw [hr2] at h2; simp at h2; done)
      | (show Calls _ _ #[_, Value.int .i64 (4)] _ _
         rw [hfw, ho]
         have ey : (Csm.resetHours c sk).y = (Csm.dayNext c st.y st.m st.d).1.1 := by rw [hsk]; rfl
         have em : (Csm.resetHours c sk).m = (Csm.dayNext c st.y st.m st.d).1.2.1 := by rw [hsk]; rfl
         exact over_months hQ (Csm.resetHours c sk) ⟨by rw [ey]; exact hdb.1, by rw [ey]; have := hdb.2.1; omega, by rw [em]; exact hdb.2.2.1, by rw [em]; exact hdb.2.2.2⟩ (by rw [ey]; have := hdb.2.1; omega) W hW))
  ·have z0 := (r0 (hz 0 (by omega))).1
   have z1 := (r0 (hz 1 (by omega))).1
   have z2 := (rd0 (hz 2 (by omega))).1
   obtain ⟨sk, hsk⟩ : ∃ sk, sk = { st with h := (Csm.cnext 0 59 c.H st.h).1 } := ⟨_, rfl⟩
   have hfwd : Csm.cvalid 0 59 c.H st.h = false → Csm.forward c st = if (Csm.cnext 0 59 c.H st.h).2 = true then Csm.ovDays c (Csm.resetMins c sk) else Csm.resetMins c sk := by
    intro hv
    unfold Csm.forward
    rw [hv, z0, z1, z2, hsk]
    rfl
   rcases cH with ⟨_, e⟩ | ⟨hv, ho, e⟩ | ⟨hv, ho, e⟩
   ·exact absurd (by simp [rOf, e]) hne
   all_goals (
    have hfw := hfwd hv
    have hr2 : rOf c st 3 = _ := congrArg (·.2) e
    have hsf : sOf c st 3 = sk := by rw [hsk]; simp only [sOf, e]
    refine ⟨Csm.resetMins c sk, fun W hW => ?_, fun h1 => ?_, fun h2 W hW => ?_⟩
    ·rw [hsf] at hW
     show Calls _ _ #[_, Value.int .i64 (1)] _ _
     exact reset_mins hQ _ W hW
    ·first
      | (exfalso; rw [hr2] at h1; simp at h1; done)
      | (rw [hfw]; rw [ho]; rfl)
    ·first
      | (exfalso; rw [hr2] at h2; simp at h2; done)
      | (show Calls _ _ #[_, Value.int .i64 (3)] _ _
         rw [hfw, ho]
         exact over_days hQ (Csm.resetMins c sk) (by rw [hsk]; exact ⟨hs.y0, hin.y1, hs.m0, hs.m1⟩) (by rw [hsk]; exact hdy) (by rw [hsk]; show st.y ≤ 999960; omega) W hW))
  ·have z0 := (r0 (hz 0 (by omega))).1
   have z1 := (r0 (hz 1 (by omega))).1
   have z2 := (rd0 (hz 2 (by omega))).1
   have z3 := (r0 (hz 3 (by omega))).1
   obtain ⟨sk, hsk⟩ : ∃ sk, sk = { st with mi := (Csm.cnext 0 59 c.Mi st.mi).1 } := ⟨_, rfl⟩
   have hfwd : Csm.cvalid 0 59 c.Mi st.mi = false → Csm.forward c st = if (Csm.cnext 0 59 c.Mi st.mi).2 = true then Csm.ovHours c (Csm.resetSecs c sk) else Csm.resetSecs c sk := by
    intro hv
    unfold Csm.forward
    rw [hv, z0, z1, z2, z3, hsk]
    rfl
   rcases cMi with ⟨_, e⟩ | ⟨hv, ho, e⟩ | ⟨hv, ho, e⟩
   ·exact absurd (by simp [rOf, e]) hne
   all_goals (
    have hfw := hfwd hv
    have hr2 : rOf c st 4 = _ := congrArg (·.2) e
    have hsf : sOf c st 4 = sk := by rw [hsk]; simp only [sOf, e]
    refine ⟨Csm.resetSecs c sk, fun W hW => ?_, fun h1 => ?_, fun h2 W hW => ?_⟩
    ·rw [hsf] at hW
     show Calls _ _ #[_, Value.int .i64 (0)] _ _
     exact reset_secs hQ _ W hW
    ·first
      | (exfalso; rw [hr2] at h1; simp at h1; done)
      | (rw [hfw]; rw [ho]; rfl)
    ·first
      | (exfalso; rw [hr2] at h2; simp at h2; done)
      | (show Calls _ _ #[_, Value.int .i64 (2)] _ _
         rw [hfw, ho]
         exact over_hours hQ (Csm.resetSecs c sk) (by rw [hsk]; exact ⟨hs.y0, hin.y1, hs.m0, hs.m1⟩) (by rw [hsk]; exact hdy) (by rw [hsk]; show st.y ≤ 999960; omega) (by rw [hsk]; exact ht.h.1) (by rw [hsk]; have := ht.h.2; show st.h ≤ 1000; omega) W hW))
  ·have z0 := (r0 (hz 0 (by omega))).1
   have z1 := (r0 (hz 1 (by omega))).1
   have z2 := (rd0 (hz 2 (by omega))).1
   have z3 := (r0 (hz 3 (by omega))).1
   have z4 := (r0 (hz 4 (by omega))).1
   obtain ⟨sk, hsk⟩ : ∃ sk, sk = { st with s := (Csm.cnext 0 59 c.S st.s).1 } := ⟨_, rfl⟩
   have hfwd : Csm.cvalid 0 59 c.S st.s = false → Csm.forward c st = if (Csm.cnext 0 59 c.S st.s).2 = true then Csm.ovMins c (sk) else sk := by
    intro hv
    unfold Csm.forward
    rw [hv, z0, z1, z2, z3, z4, hsk]
    rfl
   rcases cS with ⟨_, e⟩ | ⟨hv, ho, e⟩ | ⟨hv, ho, e⟩
   ·exact absurd (by simp [rOf, e]) hne
   all_goals (
    have hfw := hfwd hv
    have hr2 : rOf c st 5 = _ := congrArg (·.2) e
    have hsf : sOf c st 5 = sk := by rw [hsk]; simp only [sOf, e]
    refine ⟨sk, fun W hW => ?_, fun h1 => ?_, fun h2 W hW => ?_⟩
    ·rw [hsf] at hW
     rw [show (4 : Int) - ((5 : Nat) : Int) = -1 by omega]
     refine (reset_none P W (hQ.cs _ _ hW)).mono ?_
     rintro e w' ⟨rfl, rfl⟩
     exact ⟨rfl, hW⟩
    ·first
      | (exfalso; rw [hr2] at h1; simp at h1; done)
      | (rw [hfw]; rw [ho]; rfl)
    ·first
      | (exfalso; rw [hr2] at h2; simp at h2; done)
      | (show Calls _ _ #[_, Value.int .i64 (1)] _ _
         rw [hfw, ho]
         exact over_mins hQ sk (by rw [hsk]; exact ⟨hs.y0, hin.y1, hs.m0, hs.m1⟩) (by rw [hsk]; exact hdy) (by rw [hsk]; show st.y ≤ 999960; omega) (by rw [hsk]; exact ht.h.1) (by rw [hsk]; have := ht.h.2; show st.h ≤ 1000; omega) (by rw [hsk]; exact ht.mi.1) (by rw [hsk]; have := ht.mi.2; show st.mi ≤ 1000; omega) W hW))
 ·intro hz W hW
  have z0 := (r0 (hz 0 (by omega))).1
  have z1 := (r0 (hz 1 (by omega))).1
  have z2 := (rd0 (hz 2 (by omega))).1
  have z3 := (r0 (hz 3 (by omega))).1
  have z4 := (r0 (hz 4 (by omega))).1
  have z5 := (r0 (hz 5 (by omega))).1
  have e : Csm.forward c st = Csm.stepNext c st := by
   unfold Csm.forward
   rw [z0, z1, z2, z3, z4, z5]
   rfl
  rw [e]
  exact mach_next hQ b0 b1 st hs ⟨ht.s.1, by have := ht.s.2; omega⟩ ⟨ht.mi.1, by have := ht.mi.2; omega⟩ ⟨ht.h.1, by have := ht.h.2; omega⟩ W hW
 ·intro k W k0 k1 hW
  refine (select_node P k k0 k1 W (hQ.cs _ _ hW)).mono ?_
  rintro e w' ⟨rfl, rfl⟩
  exact ⟨rfl, hW⟩
 ·intro W W' hW x
  exact hQ.ext _ _ _ hW x
end Go.Proofs.YtmaffdhcmdhjfaaGreatDoor
namespace Go.Proofs.YtmaffdhcmdhjfaaGreatDoor
open Go.RowKit Go.Lib
theorem cell_ne {w : World} {B i : Nat} {v : Value} (h : w.cell? ⟨B, i, none⟩ = some v) : w.heap.size ≠ B := by
 intro e
 subst e
 simp [World.cell?, Array.getElem?_eq_none (Nat.le_refl _)] at h
theorem mach_forward {P : MacIs} {c : Csm.Cfg} {Q : Csm.St → World → Prop} (hQ : MacS P c Q) {b : Int} (b0 : 900000 ≤ b) (b1 : b ≤ 999800) {st : Csm.St} (hs : SaneSt c b st) (ht : TimeOk st) (w : World) (h : Q st w) :
 Calls Tryz.prog 112 #[.pointer (some ⟨P.B, 0, none⟩)] w fun e w' => e = .returned (.tuple #[]) ∧ Q (Csm.forward c st) w' := by
 have hd := (hQ.day st.h st.mi st.s).at_ _ _ _ _ h
 have hQ' := hQ.keep (K := w.heap.size) (cell_ne ((hQ.nS st).at_ _ _ h).v) (cell_ne ((hQ.nMi st).at_ _ _ h).v) (cell_ne ((hQ.nH st).at_ _ _ h).v) (cell_ne hd.d) (cell_ne hd.m) (cell_ne hd.y)
  (.cells #[.int .i64 5, .int .i64 4, .int .i64 3, .int .i64 2, .int .i64 1, .int .i64 0] 180 (0, 0))
 refine (fwd_walk w ⟨hQ.ext _ _ _ h (Ext.alloc _ _), heap_alloc_new _ _⟩ (fun s W hW => hW.2) (fwd_of hQ' b0 b1 hs ht)).mono ?_
 rintro e w' ⟨rfl, h2⟩
 exact ⟨rfl, h2.1⟩
theorem field170 (k : Int) (w : World) : (Instr.field 170 (.agg #[.int .i64 k]) 0).run Tryz.prog w = .ok (.int .i64 k) w := by kernel_rfl
set_option maxHeartbeats 3200000 in
set_option maxRecDepth 1000000 in
theorem mach_value {P : MacIs} {c : Csm.Cfg} {Q : Csm.St → World → Prop} (hQ : MacS P c Q) {st : Csm.St} (y0 : 1900 ≤ st.y) (y1 : st.y ≤ 1000000) (m0 : 1 ≤ st.m) (m1 : st.m ≤ 12) (d0 : 1 ≤ st.d) (d1 : st.d ≤ 31) (ht : -1000 ≤ st.s ∧ st.s ≤ 1000 ∧ -1000 ≤ st.mi ∧ st.mi ≤ 1000 ∧ -1000 ≤ st.h ∧ st.h ≤ 1000) (w : World) (h : Q st w) :
 Calls Tryz.prog 113 #[.pointer (some ⟨P.B, 0, none⟩)] w fun e w' => e = .returned (.int .i64 (Csm.value st)) ∧ Q st w' := by
 have hdi := dayIn_of (y := st.y) (m := st.m) (d := st.d) y0 (by omega) m0 (by omega) (by omega) (by omega)
 have HY : Hid (∀ W, Q st W → Calls Tryz.prog 167 #[.pointer (some ⟨P.p.Y, 0, none⟩)] W fun e w' => e = .returned (.int .i64 st.y) ∧ Q st w') := fun W hW => by
  refine (node_value P.p.Y st.y W ((hQ.day st.h st.mi st.s).at_ _ _ _ _ hW).y).mono ?_
  rintro e w' ⟨rfl, rfl⟩
  exact ⟨rfl, hW⟩
 have HM : Hid (∀ W, Q st W → Calls Tryz.prog 167 #[.pointer (some ⟨P.p.M, 0, none⟩)] W fun e w' => e = .returned (.int .i64 st.m) ∧ Q st w') := fun W hW => by
  refine (node_value P.p.M st.m W ((hQ.day st.h st.mi st.s).at_ _ _ _ _ hW).m).mono ?_
  rintro e w' ⟨rfl, rfl⟩
  exact ⟨rfl, hW⟩
 have HD : Hid (∀ W, Q st W → Calls Tryz.prog 146 #[.pointer (some ⟨P.p.B, 0, none⟩)] W fun e w' => e = .returned (.int .i64 st.d) ∧ Q st w') := fun W hW => by
  refine (day_value P.p st.y st.m st.d W ((hQ.day st.h st.mi st.s).at_ _ _ _ _ hW)).mono ?_
  rintro e w' ⟨rfl, rfl⟩
  exact ⟨rfl, hW⟩
 have HS : Hid (∀ W, Q st W → Calls Tryz.prog 167 #[.pointer (some ⟨P.s, 0, none⟩)] W fun e w' => e = .returned (.int .i64 st.s) ∧ Q st w') := fun W hW => by
  refine (node_value P.s st.s W ((hQ.nS st).at_ _ _ hW).v).mono ?_
  rintro e w' ⟨rfl, rfl⟩
  exact ⟨rfl, hW⟩
 have HMi : Hid (∀ W, Q st W → Calls Tryz.prog 167 #[.pointer (some ⟨P.mi, 0, none⟩)] W fun e w' => e = .returned (.int .i64 st.mi) ∧ Q st w') := fun W hW => by
  refine (node_value P.mi st.mi W ((hQ.nMi st).at_ _ _ hW).v).mono ?_
  rintro e w' ⟨rfl, rfl⟩
  exact ⟨rfl, hW⟩
 have HH : Hid (∀ W, Q st W → Calls Tryz.prog 167 #[.pointer (some ⟨P.h, 0, none⟩)] W fun e w' => e = .returned (.int .i64 st.h) ∧ Q st w') := fun W hW => by
  refine (node_value P.h st.h W ((hQ.nH st).at_ _ _ hW).v).mono ?_
  rintro e w' ⟨rfl, rfl⟩
  exact ⟨rfl, hW⟩
 have HMK : Hid (∀ W, Q st W → Calls Tryz.prog 145 #[.int .i64 st.y, .int .i64 st.m, .int .i64 st.d] W fun e w' => e = .returned (.agg #[.int .i64 (Cal.dayNum st.y st.m st.d)]) ∧ Q st w') := fun W hW => by
  refine (make_date st.y st.m st.d (by omega) (by omega) (by omega) (by omega) (by omega) (by omega) W).mono ?_
  rintro e w' ⟨rfl, x⟩
  exact ⟨rfl, hQ.ext _ _ _ hW x⟩
 have HCS : Hid (∀ W, Q st W → CsmAt P W) := fun W hW => hQ.cs _ _ hW
 have HEX : Hid (∀ W W', Q st W → Ext W W' → Q st W') := fun W W' hW x => hQ.ext _ _ _ hW x
 have HV : Hid (Csm.value st = ((Cal.dayNum st.y st.m st.d * 24 + st.h) * 60 + st.mi) * 60 + st.s) := rfl
 generalize Csm.value st = val at *
 obtain ⟨k0, k1⟩ := hdi
 generalize Cal.dayNum st.y st.m st.d = k at *
 obtain ⟨s0, s1, i0, i1, hh0, hh1⟩ := ht
 have H := Lib.hid h
 clear h hQ
 have v0 := field170 k
 have v1 := m_value ⟨P.p.Y, 0, none⟩
 have v2 := m_value ⟨P.p.M, 0, none⟩
 have v3 := m_value ⟨P.s, 0, none⟩
 have v4 := m_value ⟨P.mi, 0, none⟩
 have v5 := m_value ⟨P.h, 0, none⟩
 go_enter Tryz.func113, Tryz.ntmps113
 go_wp2_with fail
 obtain ⟨T, g, hT, h0, hS2, hI⟩ := cls_intro (Q st) _ (HEX.out _ _ H.out (Ext.drew w))
 have q3 := fun t => (HCS.out _ (hS2 t)).d
 have q4 := fun t => (HCS.out _ (hS2 t)).m
 have q5 := fun t => (HCS.out _ (hS2 t)).y
 have HS2 := Lib.hid hS2
 have HI := Lib.hid hI
 clear hS2 hI
 refine wp_region_cls g (by kernel_rfl) (by kernel_rfl) h0 ?_
 clear h0
 repeat (go_big_quiet_step (first
  | (go_at_call_of 167 (Value.pointer (some ⟨P.p.Y, 0, none⟩)); exact calls_cls HI.out (HY.out _ (HS2.out _)))
  | (go_at_call_of 167 (Value.pointer (some ⟨P.p.M, 0, none⟩)); exact calls_cls HI.out (HM.out _ (HS2.out _)))
  | (go_at_call 146; exact calls_cls HI.out (HD.out _ (HS2.out _)))
  | (go_at_call 145; exact calls_cls HI.out (HMK.out _ (HS2.out _)))))
 refine wpQuiet_nil ?_
 rintro _ ⟨t, rfl⟩
 clear q3 q4 q5
 have h4 := Lib.hid (HS2.out t)
 generalize g t = w4 at h4 ⊢
 clear HS2 HI hT
 have e1 : IntKind.i64.wrap (k * 24) = k * 24 := IntWalk.i64_in _ (by omega)
 have e2 : IntKind.i64.wrap (k * 24 + st.h) = k * 24 + st.h := IntWalk.i64_in _ (by omega)
 have e3 : IntKind.i64.wrap ((k * 24 + st.h) * 60) = (k * 24 + st.h) * 60 := IntWalk.i64_in _ (by omega)
 have e4 : IntKind.i64.wrap ((k * 24 + st.h) * 60 + st.mi) = (k * 24 + st.h) * 60 + st.mi := IntWalk.i64_in _ (by omega)
 have e5 : IntKind.i64.wrap (((k * 24 + st.h) * 60 + st.mi) * 60) = ((k * 24 + st.h) * 60 + st.mi) * 60 := IntWalk.i64_in _ (by omega)
 have e6 : IntKind.i64.wrap (((k * 24 + st.h) * 60 + st.mi) * 60 + st.s) = ((k * 24 + st.h) * 60 + st.mi) * 60 + st.s := IntWalk.i64_in _ (by omega)
 have E := Lib.hid (And.intro e1 (And.intro e2 (And.intro e3 (And.intro e4 (And.intro e5 e6)))))
 clear e1 e2 e3 e4 e5 e6
 go_wp2_with fail
 obtain ⟨T, g, hT, h0, hS2, hI⟩ := cls_intro (Q st) _ (HEX.out _ _ h4.out (Ext.drew w4))
 have q0 := fun t => (HCS.out _ (hS2 t)).s
 have q1 := fun t => (HCS.out _ (hS2 t)).mi
 have q2 := fun t => (HCS.out _ (hS2 t)).h
 have HS2 := Lib.hid hS2
 have HI := Lib.hid hI
 clear hS2 hI
 refine wp_region_cls g (by kernel_rfl) (by kernel_rfl) h0 ?_
 clear h0
 obtain ⟨e1, e2, e3, e4, e5, e6⟩ := E.out
 repeat (go_big_quiet_step (first
  | (go_at_call_of 167 (Value.pointer (some ⟨P.h, 0, none⟩)); exact calls_cls HI.out (HH.out _ (HS2.out _)))
  | (go_at_call_of 167 (Value.pointer (some ⟨P.mi, 0, none⟩)); exact calls_cls HI.out (HMi.out _ (HS2.out _)))
  | (go_at_call_of 167 (Value.pointer (some ⟨P.s, 0, none⟩)); exact calls_cls HI.out (HS.out _ (HS2.out _)))))
 refine wpQuiet_nil ?_
 rintro _ ⟨t, rfl⟩
 clear q0 q1 q2 e1 e2 e3 e4 e5 e6
 have h5 := Lib.hid (HS2.out t)
 generalize g t = w5 at h5 ⊢
 go_wp2_with fail
 go_ret
 exact ⟨by rw [HV.out]; rfl, h5.out⟩
set_option maxHeartbeats 1600000 in
set_option maxRecDepth 1000000 in
theorem mach_trigger {P : MacIs} {c : Csm.Cfg} {Q : Csm.St → World → Prop} (hQ : MacS P c Q) {b : Int} (b0 : 900000 ≤ b) (b1 : b ≤ 999800) {st : Csm.St} (hs : SaneSt c b st) (ht : TimeOk st)
 (hs2 : (1900 ≤ (Csm.forward c st).y ∧ (Csm.forward c st).y ≤ 1000000 ∧ 1 ≤ (Csm.forward c st).m ∧ (Csm.forward c st).m ≤ 12 ∧ 1 ≤ (Csm.forward c st).d ∧ (Csm.forward c st).d ≤ 31) ∧ TimeOk (Csm.forward c st)) (w : World) (h : Q st w) :
 Calls Tryz.prog 88 #[.pointer (some ⟨P.B, 0, none⟩)] w fun e w' => e = .returned (.int .i64 (Csm.value (Csm.forward c st))) ∧ Q (Csm.forward c st) w' := by
 have HF := Lib.hid (mach_forward hQ b0 b1 hs ht w h)
 obtain ⟨⟨y0, y1, m0, m1, d0, d1⟩, tt⟩ := hs2
 have HV : Hid (∀ W, Q (Csm.forward c st) W → Calls Tryz.prog 113 #[.pointer (some ⟨P.B, 0, none⟩)] W fun e w' => e = .returned (.int .i64 (Csm.value (Csm.forward c st))) ∧ Q (Csm.forward c st) w') := fun W hW =>
  mach_value hQ y0 y1 m0 m1 d0 d1 ⟨by have := tt.s.1; omega, by have := tt.s.2; omega, by have := tt.mi.1; omega, by have := tt.mi.2; omega, by have := tt.h.1; omega, by have := tt.h.2; omega⟩ W hW
 generalize Csm.forward c st = st2 at *
 generalize Csm.value st2 = v at *
 clear h hs ht hQ tt y0 y1 m0 m1 d0 d1
 go_enter Tryz.func88, Tryz.ntmps88
 go_wp2_with fail
 go_at_call 112
 refine HF.out.mono ?_
 rintro e w1 ⟨rfl, h1⟩
 have H1 := Lib.hid h1
 clear h1
 go_wp2_with fail
 go_at_call 113
 refine (HV.out _ H1.out).mono ?_
 rintro e w2 ⟨rfl, h2⟩
 have H2 := Lib.hid h2
 clear h2
 go_wp2_with fail
 go_ret
 exact ⟨rfl, H2.out⟩
end Go.Proofs.YtmaffdhcmdhjfaaGreatDoor
