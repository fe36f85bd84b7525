/- spec.right. spec.text. spec.Text, Right, Special, Plain: an expression as a whole. spec.Right. spec.Special, Plain. -/
import Derived.Test.YtmaffdhcmdhjfaaGreatDoorND
set_option linter.unusedSimpArgs false
set_option linter.unusedVariables false
namespace Go.Proofs.YtmaffdhcmdhjfaaGreatDoor
open Go.RowKit Go.Lib
def ItemsAt (W : World) (a : Option Addr) (items : List Atom) : Prop :=
 items ≠ [] → ∃ b o, a = some ⟨b, o, none⟩ ∧ ∀ (j : Nat) (x : Atom), items[j]? = some x →
  W.cell? ⟨b, o + j * 6, none⟩ = some (.int .i64 x.k) ∧ W.cell? ⟨b, o + j * 6 + 1, none⟩ = some (.int .i64 x.a) ∧ W.cell? ⟨b, o + j * 6 + 2, none⟩ = some (.int .i64 x.b) ∧
  W.cell? ⟨b, o + j * 6 + 3, none⟩ = some (.int .i64 x.s) ∧ W.cell? ⟨b, o + j * 6 + 4, none⟩ = some (.int .i64 x.n) ∧ W.cell? ⟨b, o + j * 6 + 5, none⟩ = some x.it
theorem ItemsAt.ext {W W' : World} {a : Option Addr} {items : List Atom} (h : ItemsAt W a items) (x : Ext W W') : ItemsAt W' a items := by
 intro hne
 obtain ⟨b, o, ha, hc⟩ := h hne
 refine ⟨b, o, ha, fun j y hj => ?_⟩
 obtain ⟨h0, h1, h2, h3, h4, h5⟩ := hc j y hj
 exact ⟨x.cell h0, x.cell h1, x.cell h2, x.cell h3, x.cell h4, x.cell h5⟩
def itemB (f : Nat) (x : Atom) : Bool := decide (0 ≤ x.n) && decide (x.n ≤ 2) && simpleB f x.k x.a x.b x.s
def rightB (f : Nat) (k a b s n : Int) (items : List Atom) : Bool :=
 if n < 0 then false else if 2 < n then false
 else if k = 0 then true else if k = 1 then true
 else if k = 7 then decide (2 ≤ items.length) && decide (items.length ≤ 6) && items.all (itemB f)
 else if k = 8 then decide (f = 3) else if k = 11 then decide (f = 3)
 else if k = 9 then decide (f = 3) && decide (1 ≤ a) && decide (a ≤ 31)
 else if k = 10 then decide (f = 3) && decide (1 ≤ a) && decide (a ≤ 31)
 else if k = 12 then decide (f = 5) && decide (1 ≤ a) && decide (a ≤ 7)
 else if k = 13 then decide (f = 5) && decide (1 ≤ a) && decide (a ≤ 7) && decide (1 ≤ b) && decide (b ≤ 5)
 else simpleB f k a b s
set_option maxHeartbeats 3200000 in
set_option maxRecDepth 1000000 in
theorem right_list (f : Nat) (hf : f < 7) (a b s n : Int) (hn0 : 0 ≤ n) (hn2 : n ≤ 2) (ia : Option Addr) (cap : Nat) (items : List Atom) (hl : items.length ≤ 9223372036854775807) (w : World) (hI : ItemsAt w ia items) :
 Calls Tryz.prog 35 #[.int .i64 f, .agg #[.int .i64 7, .int .i64 a, .int .i64 b, .int .i64 s, .int .i64 n, .slice ia items.length cap]] w fun e w' => e = .returned (.bool (rightB f 7 a b s n items)) ∧ Ext w w' := by
 obtain ⟨L, hL⟩ : ∃ L, L = items.length := ⟨_, rfl⟩
 have HL := Lib.hid hL
 have HI := Lib.hid hI
 rw [← hL] at hl
 have HR : Hid (rightB f 7 a b s n items = (decide (2 ≤ L) && decide (L ≤ 6) && items.all (itemB f))) := by
  show _ = _
  unfold rightB
  rw [if_neg (by omega), if_neg (by omega), hL]
  rfl
 have HX : Hid (Ext w (w.alloc (.cells #[.int .i64 7, .int .i64 a, .int .i64 b, .int .i64 s, .int .i64 n, .slice ia L cap] 24))) := Ext.alloc _ _
 rw [← hL]
 clear hL hI
 by_cases h2 : L < 2
 ·go_enter Tryz.func35, Tryz.ntmps35
  go_wp2_with fail
  go_ret
  exact ⟨ret_bool (by rw [HR.out]; simp; omega), HX.out⟩
 ·by_cases h6 : 6 < L
  ·go_enter Tryz.func35, Tryz.ntmps35
   go_wp2_with fail
   go_ret
   exact ⟨ret_bool (by rw [HR.out]; simp; omega), HX.out⟩
  ·obtain ⟨bl, off, rfl, hc⟩ := HI.out (by intro e; have := HL.out; rw [e] at this; simp at this; omega)
   have HC := Lib.hid hc
   clear hc
   go_enter Tryz.func35, Tryz.ntmps35
   go_wp2_with fail
   go_loopw [5] (fun i wr => ∃ k : Nat, k ≤ L ∧ i = .int .i64 k ∧ Hid ((items.take k).all (itemB f) = true) ∧ Hid (Ext (w.alloc (.cells #[.int .i64 7, .int .i64 a, .int .i64 b, .int .i64 s, .int .i64 n, .slice (some ⟨bl, off, none⟩) L cap] 24)) wr))
    (fun i _ => L - (RowKit.intOf i).toNat)
   case atStart => exact ⟨0, Nat.zero_le _, rfl, rfl, Ext.refl _⟩
   case round =>
    obtain ⟨k, hk, rfl, Ha, Hx⟩ := hrel
    have c5 : wr.cell? ⟨w.heap.size, 5, none⟩ = some (.slice (some ⟨bl, off, none⟩) L cap) := Hx.out.cell (by simp)
    by_cases hlt : k < L
    ·obtain ⟨x, hx⟩ : ∃ x, items[k]? = some x := ⟨_, List.getElem?_eq_getElem (by have := HL.out; omega)⟩
     obtain ⟨d0, d1, d2, d3, d4, d5⟩ := HC.out k x hx
     have X := HX.out.trans Hx.out
     replace d0 := X.cell d0
     replace d1 := X.cell d1
     replace d2 := X.cell d2
     replace d3 := X.cell d3
     replace d4 := X.cell d4
     replace d5 := X.cell d5
     obtain ⟨xk, xa, xb, xs, xn, xit⟩ := x
     simp only at d0 d1 d2 d3 d4 d5
     have HXX := Lib.hid X
     have Hx' := Lib.hid hx
     clear X hx
     have hkl : k < items.length := by have := HL.out; omega
     have Hbad : Hid (itemB f ⟨xk, xa, xb, xs, xn, xit⟩ = false → rightB f 7 a b s n items = false) := by
      intro hb
      rw [HR.out]
      have : items.all (itemB f) = false := by
       rw [List.all_eq_false]
       refine ⟨_, List.mem_of_getElem? Hx'.out, ?_⟩
       rw [hb]; simp
      rw [this]; simp
     have Hgood : Hid (itemB f ⟨xk, xa, xb, xs, xn, xit⟩ = true → (items.take (k + 1)).all (itemB f) = true) := by
      intro hb
      have h1 : items[k]'hkl = ⟨xk, xa, xb, xs, xn, xit⟩ := (List.getElem?_eq_some_iff.mp Hx'.out).2
      rw [List.take_succ_eq_append_getElem hkl, List.all_append, Ha.out, h1]
      simp [hb]
     by_cases hx0 : xn < 0
     ·have Hb : Hid (itemB f ⟨xk, xa, xb, xs, xn, xit⟩ = false) := by show _ = _; unfold itemB; simp; omega
      go_wp2_with fail
      go_ret
      exact ⟨ret_bool (Hbad.out Hb.out).symm, HXX.out⟩
     ·by_cases hx2 : 2 < xn
      ·have Hb : Hid (itemB f ⟨xk, xa, xb, xs, xn, xit⟩ = false) := by show _ = _; unfold itemB; simp; omega
       go_wp2_with fail
       go_ret
       exact ⟨ret_bool (Hbad.out Hb.out).symm, HXX.out⟩
      ·have Hb : Hid (itemB f ⟨xk, xa, xb, xs, xn, xit⟩ = simpleB f xk xa xb xs) := by
        show _ = _
        unfold itemB
        have e1 : decide (0 ≤ xn) = true := by simp; omega
        have e2 : decide (xn ≤ 2) = true := by simp; omega
        simp only [e1, e2, Bool.true_and]
       go_wp2_with fail
       go_at_call 59
       refine (simple_any f hf xk xa xb xs xn xit _).mono ?_
       rintro e w1 ⟨rfl, x1⟩
       have HXX1 := Lib.hid (HXX.out.trans x1)
       have Hx1 := Lib.hid (Hx.out.trans x1)
       clear x1
       rcases hs : simpleB f xk xa xb xs
       ·have Hs := Lib.hid hs
        clear hs
        go_wp2_with fail
        go_ret
        exact ⟨ret_bool (Hbad.out (Hb.out.trans Hs.out)).symm, HXX1.out⟩
       ·have Hs := Lib.hid hs
        clear hs
        go_wp2_with fail
        go_roundw
        case rel => exact ⟨k + 1, by omega, by go_num, Hgood.out (Hb.out.trans Hs.out), Hx1⟩
        case measure => simp [RowKit.intOf]; omega
    ·go_wp2_with fail
     go_ret
     have hkL : items.take k = items := List.take_of_length_le (by have := HL.out; omega)
     have ha := Ha.out
     rw [hkL] at ha
     exact ⟨ret_bool (by rw [HR.out, ha]; simp; omega), HX.out.trans Hx.out⟩
set_option maxHeartbeats 6400000 in
set_option maxRecDepth 1000000 in
theorem right_atom (f : Nat) (hf : f < 7) (k a b s n : Int) (hk7 : k ≠ 7) (it : Value) (items : List Atom) (w : World) :
 Calls Tryz.prog 35 #[.int .i64 f, .agg #[.int .i64 k, .int .i64 a, .int .i64 b, .int .i64 s, .int .i64 n, it]] w fun e w' => e = .returned (.bool (rightB f k a b s n items)) ∧ Ext w w' := by
 have HX : Hid (Ext w (w.alloc (.cells #[.int .i64 k, .int .i64 a, .int .i64 b, .int .i64 s, .int .i64 n, it] 24))) := Ext.alloc _ _
 obtain ⟨R, hR⟩ : ∃ R, R = rightB f k a b s n items := ⟨_, rfl⟩
 rw [← hR]
 have HR := Lib.hid hR
 clear hR
 by_cases hn0 : n < 0
 ·have HRR : Hid (R = false) := by show _ = _; rw [HR.out]; unfold rightB; rw [if_pos hn0]
  go_enter Tryz.func35, Tryz.ntmps35
  go_wp2_with fail
  go_ret
  exact ⟨ret_bool HRR.out.symm, HX.out⟩
 ·by_cases hn2 : 2 < n
  ·have HRR : Hid (R = false) := by show _ = _; rw [HR.out]; unfold rightB; rw [if_neg hn0, if_pos hn2]
   go_enter Tryz.func35, Tryz.ntmps35
   go_wp2_with fail
   go_ret
   exact ⟨ret_bool HRR.out.symm, HX.out⟩
  ·have HR1 := HR.out
   unfold rightB at HR1
   rw [if_neg hn0, if_neg hn2] at HR1
   replace HR1 := Lib.hid HR1
   clear HR
   by_cases k0 : k = 0
   ·subst k0
    go_enter Tryz.func35, Tryz.ntmps35
    go_wp2_with fail
    go_ret
    exact ⟨ret_bool (by rw [HR1.out]; simp), HX.out⟩
   ·skip
    by_cases k1 : k = 1
    ·subst k1
     go_enter Tryz.func35, Tryz.ntmps35
     go_wp2_with fail
     go_ret
     exact ⟨ret_bool (by rw [HR1.out]; simp), HX.out⟩
    ·skip
     by_cases k8 : k = 8
     ·subst k8
      by_cases hf3 : f = 3
      ·subst hf3
       go_enter Tryz.func35, Tryz.ntmps35
       go_wp2_with fail
       go_ret
       exact ⟨ret_bool (by rw [HR1.out]; simp), HX.out⟩
      ·have e3 : ((f : Int) == 3) = false := by rw [beq_eq_false_iff_ne]; omega
       have Hf3 := Lib.hid hf3
       clear hf3
       go_enter Tryz.func35, Tryz.ntmps35
       go_wp2_with fail
       go_ret
       exact ⟨ret_bool (by rw [HR1.out]; simp [Hf3.out]), HX.out⟩
     ·skip
      by_cases k11 : k = 11
      ·subst k11
       by_cases hf3 : f = 3
       ·subst hf3
        go_enter Tryz.func35, Tryz.ntmps35
        go_wp2_with fail
        go_ret
        exact ⟨ret_bool (by rw [HR1.out]; simp), HX.out⟩
       ·have e3 : ((f : Int) == 3) = false := by rw [beq_eq_false_iff_ne]; omega
        have Hf3 := Lib.hid hf3
        clear hf3
        go_enter Tryz.func35, Tryz.ntmps35
        go_wp2_with fail
        go_ret
        exact ⟨ret_bool (by rw [HR1.out]; simp [Hf3.out]), HX.out⟩
      ·skip
       by_cases k9 : k = 9
       ·subst k9
        by_cases hf3 : f = 3
        ·subst hf3
         by_cases q1 : 1 ≤ a
         ·skip
          by_cases q2 : a ≤ 31
          ·skip
           go_enter Tryz.func35, Tryz.ntmps35
           go_wp2_with fail
           go_ret
           exact ⟨ret_bool (by rw [HR1.out]; simp; omega), HX.out⟩
          ·skip
           go_enter Tryz.func35, Tryz.ntmps35
           go_wp2_with fail
           go_ret
           exact ⟨ret_bool (by rw [HR1.out]; simp; omega), HX.out⟩
         ·skip
          go_enter Tryz.func35, Tryz.ntmps35
          go_wp2_with fail
          go_ret
          exact ⟨ret_bool (by rw [HR1.out]; simp; omega), HX.out⟩
        ·have e3 : ((f : Int) == 3) = false := by rw [beq_eq_false_iff_ne]; omega
         have Hf3 := Lib.hid hf3
         clear hf3
         go_enter Tryz.func35, Tryz.ntmps35
         go_wp2_with fail
         go_ret
         exact ⟨ret_bool (by rw [HR1.out]; simp [Hf3.out]), HX.out⟩
       ·skip
        by_cases k10 : k = 10
        ·subst k10
         by_cases hf3 : f = 3
         ·subst hf3
          by_cases q1 : 1 ≤ a
          ·skip
           by_cases q2 : a ≤ 31
           ·skip
            go_enter Tryz.func35, Tryz.ntmps35
            go_wp2_with fail
            go_ret
            exact ⟨ret_bool (by rw [HR1.out]; simp; omega), HX.out⟩
           ·skip
            go_enter Tryz.func35, Tryz.ntmps35
            go_wp2_with fail
            go_ret
            exact ⟨ret_bool (by rw [HR1.out]; simp; omega), HX.out⟩
          ·skip
           go_enter Tryz.func35, Tryz.ntmps35
           go_wp2_with fail
           go_ret
           exact ⟨ret_bool (by rw [HR1.out]; simp; omega), HX.out⟩
         ·have e3 : ((f : Int) == 3) = false := by rw [beq_eq_false_iff_ne]; omega
          have Hf3 := Lib.hid hf3
          clear hf3
          go_enter Tryz.func35, Tryz.ntmps35
          go_wp2_with fail
          go_ret
          exact ⟨ret_bool (by rw [HR1.out]; simp [Hf3.out]), HX.out⟩
        ·skip
         by_cases k12 : k = 12
         ·subst k12
          by_cases hf3 : f = 5
          ·subst hf3
           by_cases q1 : 1 ≤ a
           ·skip
            by_cases q2 : a ≤ 7
            ·skip
             go_enter Tryz.func35, Tryz.ntmps35
             go_wp2_with fail
             go_ret
             exact ⟨ret_bool (by rw [HR1.out]; simp; omega), HX.out⟩
            ·skip
             go_enter Tryz.func35, Tryz.ntmps35
             go_wp2_with fail
             go_ret
             exact ⟨ret_bool (by rw [HR1.out]; simp; omega), HX.out⟩
           ·skip
            go_enter Tryz.func35, Tryz.ntmps35
            go_wp2_with fail
            go_ret
            exact ⟨ret_bool (by rw [HR1.out]; simp; omega), HX.out⟩
          ·have e3 : ((f : Int) == 5) = false := by rw [beq_eq_false_iff_ne]; omega
           have Hf3 := Lib.hid hf3
           clear hf3
           go_enter Tryz.func35, Tryz.ntmps35
           go_wp2_with fail
           go_ret
           exact ⟨ret_bool (by rw [HR1.out]; simp [Hf3.out]), HX.out⟩
         ·skip
          by_cases k13 : k = 13
          ·subst k13
           by_cases hf3 : f = 5
           ·subst hf3
            by_cases q1 : 1 ≤ a
            ·skip
             by_cases q2 : a ≤ 7
             ·skip
              by_cases q3 : 1 ≤ b
              ·skip
               by_cases q4 : b ≤ 5
               ·skip
                go_enter Tryz.func35, Tryz.ntmps35
                go_wp2_with fail
                go_ret
                exact ⟨ret_bool (by rw [HR1.out]; simp; omega), HX.out⟩
               ·skip
                go_enter Tryz.func35, Tryz.ntmps35
                go_wp2_with fail
                go_ret
                exact ⟨ret_bool (by rw [HR1.out]; simp; omega), HX.out⟩
              ·skip
               go_enter Tryz.func35, Tryz.ntmps35
               go_wp2_with fail
               go_ret
               exact ⟨ret_bool (by rw [HR1.out]; simp; omega), HX.out⟩
             ·skip
              go_enter Tryz.func35, Tryz.ntmps35
              go_wp2_with fail
              go_ret
              exact ⟨ret_bool (by rw [HR1.out]; simp; omega), HX.out⟩
            ·skip
             go_enter Tryz.func35, Tryz.ntmps35
             go_wp2_with fail
             go_ret
             exact ⟨ret_bool (by rw [HR1.out]; simp; omega), HX.out⟩
           ·have e3 : ((f : Int) == 5) = false := by rw [beq_eq_false_iff_ne]; omega
            have Hf3 := Lib.hid hf3
            clear hf3
            go_enter Tryz.func35, Tryz.ntmps35
            go_wp2_with fail
            go_ret
            exact ⟨ret_bool (by rw [HR1.out]; simp [Hf3.out]), HX.out⟩
          ·skip
           have HR2 : Hid (R = simpleB f k a b s) := by show _ = _; rw [HR1.out, if_neg k0, if_neg k1, if_neg hk7, if_neg k8, if_neg k11, if_neg k9, if_neg k10, if_neg k12, if_neg k13]
           clear HR1
           have e0 : (k == 0) = false := by rw [beq_eq_false_iff_ne]; exact k0
           have e1 : (k == 1) = false := by rw [beq_eq_false_iff_ne]; exact k1
           have e8 : (k == 8) = false := by rw [beq_eq_false_iff_ne]; exact k8
           have e11 : (k == 11) = false := by rw [beq_eq_false_iff_ne]; exact k11
           have e9 : (k == 9) = false := by rw [beq_eq_false_iff_ne]; exact k9
           have e10 : (k == 10) = false := by rw [beq_eq_false_iff_ne]; exact k10
           have e12 : (k == 12) = false := by rw [beq_eq_false_iff_ne]; exact k12
           have e13 : (k == 13) = false := by rw [beq_eq_false_iff_ne]; exact k13
           have e7 : (k == 7) = false := by rw [beq_eq_false_iff_ne]; exact hk7
           clear hk7 k0 k1 k8 k11 k9 k10 k12 k13
           go_enter Tryz.func35, Tryz.ntmps35
           go_wp2_with fail
           go_at_call 59
           refine (simple_any f hf k a b s n it _).mono ?_
           rintro e w1 ⟨rfl, x1⟩
           have HX1 := Lib.hid (HX.out.trans x1)
           clear x1
           go_wp2_with fail
           go_ret
           exact ⟨ret_bool HR2.out.symm, HX1.out⟩
end Go.Proofs.YtmaffdhcmdhjfaaGreatDoor
namespace Go.Proofs.YtmaffdhcmdhjfaaGreatDoor
open Go.RowKit Go.Lib
theorem ret_str {a b : ByteArray} (h : a = b) : Ending.returned (.string a) = .returned (.string b) := by rw [h]
theorem mk_append (a b : List UInt8) : mk a ++ mk b = mk (a ++ b) := by
 refine mk_eq _ _ ?_
 simp [bytes, mk]
theorem nameL_len (f : Nat) (n named : Int) (h : Joins.In64 n) : (nameL f n named).length ≤ 21 := by
 have hi := itoa_len n h
 have hb : (baseL f n).length ≤ 21 := by
  unfold baseL
  split
  ·rename_i h4
   have : n = 1 ∨ n = 2 ∨ n = 3 ∨ n = 4 ∨ n = 5 ∨ n = 6 ∨ n = 7 ∨ n = 8 ∨ n = 9 ∨ n = 10 ∨ n = 11 ∨ n = 12 := by omega
   rcases this with rfl | rfl | rfl | rfl | rfl | rfl | rfl | rfl | rfl | rfl | rfl | rfl <;> decide
  ·split
   ·rename_i h5
    have : n = 1 ∨ n = 2 ∨ n = 3 ∨ n = 4 ∨ n = 5 ∨ n = 6 ∨ n = 7 := by omega
    rcases this with rfl | rfl | rfl | rfl | rfl | rfl | rfl <;> decide
   ·exact hi
 unfold nameL lowerL
 repeat' split
 ·exact hi
 ·simpa using hb
 ·exact hb
theorem name_all (f : Nat) (hf : f < 7) (n named : Int) (h : Joins.In64 n) (w : World) (hE : Env w) :
 Calls Tryz.prog 60 #[.int .i64 f, .int .i64 n, .int .i64 named] w fun e w' => e = .returned (.string (mk (nameL f n named))) ∧ Ext w w' := by
 by_cases h0 : named = 0
 ·subst h0; exact name_plain f hf n h w hE
 ·exact name_any f hf n named h h0 w hE
set_option maxHeartbeats 3200000 in
set_option maxRecDepth 1000000 in
theorem text_atom (f : Nat) (hf : f < 7) (k a b s n : Int) (ha : Joins.In64 a) (hb : Joins.In64 b) (hs : Joins.In64 s) (hk7 : k ≠ 7) (it : Value) (w : World) (hE : Env w) :
 Calls Tryz.prog 37 #[.int .i64 f, .agg #[.int .i64 k, .int .i64 a, .int .i64 b, .int .i64 s, .int .i64 n, it]] w fun e w' => e = .returned (.string (mk (textA f k a b s n))) ∧ Ext w w' := by
 obtain ⟨A, hA⟩ : ∃ A, A = mk (nameL f a n) := ⟨_, rfl⟩
 obtain ⟨B, hB⟩ : ∃ B, B = mk (nameL f b n) := ⟨_, rfl⟩
 obtain ⟨C, hC⟩ : ∃ C, C = mk (itoa s) := ⟨_, rfl⟩
 obtain ⟨D, hD⟩ : ∃ D, D = mk (itoa a) := ⟨_, rfl⟩
 obtain ⟨E, hEq⟩ : ∃ E, E = mk (itoa b) := ⟨_, rfl⟩
 have sA : A.size ≤ 21 := by rw [hA, size_mk]; exact nameL_len f a n ha
 have sB : B.size ≤ 21 := by rw [hB, size_mk]; exact nameL_len f b n hb
 have sC : C.size ≤ 21 := by rw [hC, size_mk]; exact itoa_len s hs
 have sD : D.size ≤ 21 := by rw [hD, size_mk]; exact itoa_len a ha
 have sE : E.size ≤ 21 := by rw [hEq, size_mk]; exact itoa_len b hb
 have HA : Hid (∀ W, Env W → Calls Tryz.prog 60 #[.int .i64 f, .int .i64 a, .int .i64 n] W fun e w' => e = .returned (.string A) ∧ Ext W w') := fun W hW => by rw [hA]; exact name_all f hf a n ha W hW
 have HB : Hid (∀ W, Env W → Calls Tryz.prog 60 #[.int .i64 f, .int .i64 b, .int .i64 n] W fun e w' => e = .returned (.string B) ∧ Ext W w') := fun W hW => by rw [hB]; exact name_all f hf b n hb W hW
 have HC : Hid (∀ W, Env W → Calls Tryz.prog 56 #[.int .i64 s] W fun e w' => e = .returned (.string C) ∧ Ext W w') := fun W hW => by rw [hC]; exact itoa_any s hs W hW
 have HD : Hid (∀ W, Env W → Calls Tryz.prog 56 #[.int .i64 a] W fun e w' => e = .returned (.string D) ∧ Ext W w') := fun W hW => by rw [hD]; exact itoa_any a ha W hW
 have HE : Hid (∀ W, Env W → Calls Tryz.prog 56 #[.int .i64 b] W fun e w' => e = .returned (.string E) ∧ Ext W w') := fun W hW => by rw [hEq]; exact itoa_any b hb W hW
 obtain ⟨R, hR⟩ : ∃ R, R = mk (textA f k a b s n) := ⟨_, rfl⟩
 have HR : Hid (R = if k = 1 then mk [63] else if k = 2 then A else if k = 3 then A ++ mk [45] ++ B else if k = 4 then A ++ mk [47] ++ C else if k = 5 then mk [42, 47] ++ C
  else if k = 6 then A ++ mk [45] ++ B ++ mk [47] ++ C else if k = 8 then mk [76] else if k = 9 then mk [76, 45] ++ D else if k = 10 then D ++ mk [87] else if k = 11 then mk [76, 87] else if k = 12 then A ++ mk [76]
  else if k = 13 then A ++ mk [35] ++ E else mk [42]) := by
  show _ = _
  rw [hR, hA, hB, hC, hD, hEq]
  unfold textA
  simp only [apply_ite mk, mk_append, List.append_assoc, List.cons_append, List.nil_append]
 rw [← hR]
 clear hA hB hC hD hEq hR
 have HX : Hid (Ext w (w.alloc (.cells #[.int .i64 k, .int .i64 a, .int .i64 b, .int .i64 s, .int .i64 n, it] 24))) := Ext.alloc _ _
 have b0 : (w.alloc (.cells #[.int .i64 k, .int .i64 a, .int .i64 b, .int .i64 s, .int .i64 n, it] 24)).cell? ⟨w.heap.size, 0, none⟩ = some (.int .i64 k) := by simp
 have b1 : (w.alloc (.cells #[.int .i64 k, .int .i64 a, .int .i64 b, .int .i64 s, .int .i64 n, it] 24)).cell? ⟨w.heap.size, 1, none⟩ = some (.int .i64 a) := by simp
 have b2 : (w.alloc (.cells #[.int .i64 k, .int .i64 a, .int .i64 b, .int .i64 s, .int .i64 n, it] 24)).cell? ⟨w.heap.size, 2, none⟩ = some (.int .i64 b) := by simp
 have b3 : (w.alloc (.cells #[.int .i64 k, .int .i64 a, .int .i64 b, .int .i64 s, .int .i64 n, it] 24)).cell? ⟨w.heap.size, 3, none⟩ = some (.int .i64 s) := by simp
 have b4 : (w.alloc (.cells #[.int .i64 k, .int .i64 a, .int .i64 b, .int .i64 s, .int .i64 n, it] 24)).cell? ⟨w.heap.size, 4, none⟩ = some (.int .i64 n) := by simp
 have B0 := Lib.hid b0
 have B1 := Lib.hid b1
 have B2 := Lib.hid b2
 have B3 := Lib.hid b3
 have B4 := Lib.hid b4
 clear b0 b1 b2 b3 b4
 go_enter Tryz.func37, Tryz.ntmps37
 go_wp2_with fail
 go_at_call 60
 refine (HA.out _ (hE.ext HX.out)).mono ?_
 rintro e w1 ⟨rfl, x1⟩
 have b1 := x1.cell B1.out
 have b2 := x1.cell B2.out
 have b4 := x1.cell B4.out
 have X1 := Lib.hid x1
 clear x1
 go_wp2_with fail
 go_at_call 60
 refine (HB.out _ (hE.ext (HX.out.trans X1.out))).mono ?_
 rintro e w2 ⟨rfl, x2⟩
 have X2 := Lib.hid (X1.out.trans x2)
 have b3 := X2.out.cell B3.out
 clear x2 b1 b2 b4
 go_wp2_with fail
 go_at_call 56
 refine (HC.out _ (hE.ext (HX.out.trans X2.out))).mono ?_
 rintro e w3 ⟨rfl, x3⟩
 have X3 := Lib.hid (X2.out.trans x3)
 clear x3 b3
 have b0 := X3.out.cell B0.out
 have X := Lib.hid (HX.out.trans X3.out)
 have EW := Lib.hid (hE.ext X.out)
 have b1 := X3.out.cell B1.out
 have b2 := X3.out.cell B2.out
 clear B0 B1 B2 B3 B4 HX X1 X2 X3 HA HB HC
 by_cases k1 : k = 1
 ·subst k1
  go_wp2_with fail
  go_ret
  exact ⟨ret_str (by rw [HR.out]; rfl), X.out⟩
 ·skip
  by_cases k2 : k = 2
  ·subst k2
   go_wp2_with fail
   go_ret
   exact ⟨ret_str (by rw [HR.out]; rfl), X.out⟩
  ·skip
   by_cases k3 : k = 3
   ·subst k3
    go_wp2_with fail
    go_ret
    exact ⟨ret_str (by rw [HR.out]; rfl), X.out⟩
   ·skip
    by_cases k4 : k = 4
    ·subst k4
     go_wp2_with fail
     go_ret
     exact ⟨ret_str (by rw [HR.out]; rfl), X.out⟩
    ·skip
     by_cases k5 : k = 5
     ·subst k5
      go_wp2_with fail
      go_ret
      exact ⟨ret_str (by rw [HR.out]; rfl), X.out⟩
     ·skip
      by_cases k6 : k = 6
      ·subst k6
       go_wp2_with fail
       go_ret
       exact ⟨ret_str (by rw [HR.out]; rfl), X.out⟩
      ·skip
       by_cases k8 : k = 8
       ·subst k8
        go_wp2_with fail
        go_ret
        exact ⟨ret_str (by rw [HR.out]; rfl), X.out⟩
       ·skip
        by_cases k9 : k = 9
        ·subst k9
         go_wp2_with fail
         go_at_call 56
         refine (HD.out _ EW.out).mono ?_
         rintro e w4 ⟨rfl, x4⟩
         have X4 := Lib.hid (X.out.trans x4)
         clear x4
         go_wp2_with fail
         go_ret
         exact ⟨ret_str (by rw [HR.out]; rfl), X4.out⟩
        ·skip
         by_cases k10 : k = 10
         ·subst k10
          go_wp2_with fail
          go_at_call 56
          refine (HD.out _ EW.out).mono ?_
          rintro e w4 ⟨rfl, x4⟩
          have X4 := Lib.hid (X.out.trans x4)
          clear x4
          go_wp2_with fail
          go_ret
          exact ⟨ret_str (by rw [HR.out]; rfl), X4.out⟩
         ·skip
          by_cases k11 : k = 11
          ·subst k11
           go_wp2_with fail
           go_ret
           exact ⟨ret_str (by rw [HR.out]; rfl), X.out⟩
          ·skip
           by_cases k12 : k = 12
           ·subst k12
            go_wp2_with fail
            go_ret
            exact ⟨ret_str (by rw [HR.out]; rfl), X.out⟩
           ·skip
            by_cases k13 : k = 13
            ·subst k13
             go_wp2_with fail
             go_at_call 56
             refine (HE.out _ EW.out).mono ?_
             rintro e w4 ⟨rfl, x4⟩
             have X4 := Lib.hid (X.out.trans x4)
             clear x4
             go_wp2_with fail
             go_ret
             exact ⟨ret_str (by rw [HR.out]; rfl), X4.out⟩
            ·skip
             have HR2 : Hid (R = mk [42]) := by show _ = _; rw [HR.out, if_neg k1, if_neg k2, if_neg k3, if_neg k4, if_neg k5, if_neg k6, if_neg k8, if_neg k9, if_neg k10, if_neg k11, if_neg k12, if_neg k13]
             clear HR
             have e1 : (k == 1) = false := by rw [beq_eq_false_iff_ne]; exact k1
             have e2 : (k == 2) = false := by rw [beq_eq_false_iff_ne]; exact k2
             have e3 : (k == 3) = false := by rw [beq_eq_false_iff_ne]; exact k3
             have e4 : (k == 4) = false := by rw [beq_eq_false_iff_ne]; exact k4
             have e5 : (k == 5) = false := by rw [beq_eq_false_iff_ne]; exact k5
             have e6 : (k == 6) = false := by rw [beq_eq_false_iff_ne]; exact k6
             have e8 : (k == 8) = false := by rw [beq_eq_false_iff_ne]; exact k8
             have e9 : (k == 9) = false := by rw [beq_eq_false_iff_ne]; exact k9
             have e10 : (k == 10) = false := by rw [beq_eq_false_iff_ne]; exact k10
             have e11 : (k == 11) = false := by rw [beq_eq_false_iff_ne]; exact k11
             have e12 : (k == 12) = false := by rw [beq_eq_false_iff_ne]; exact k12
             have e13 : (k == 13) = false := by rw [beq_eq_false_iff_ne]; exact k13
             have e7 : (k == 7) = false := by rw [beq_eq_false_iff_ne]; exact hk7
             clear hk7 k1 k2 k3 k4 k5 k6 k8 k9 k10 k11 k12 k13
             go_wp2_with fail
             go_ret
             exact ⟨ret_str (by rw [HR2.out]; rfl), X.out⟩
theorem joinL_snoc (c : UInt8) (x : List UInt8) : ∀ L : List (List UInt8), L ≠ [] → joinL c (L ++ [x]) = joinL c L ++ c :: x
 | [], h => absurd rfl h
 | [y], _ => rfl
 | y :: z :: r, _ => by
   have := joinL_snoc c x (z :: r) (by simp)
   show y ++ c :: joinL c (z :: r ++ [x]) = (y ++ c :: joinL c (z :: r)) ++ c :: x
   rw [this]
   simp
theorem ite_le {c : Prop} [Decidable c] {x y m : Nat} (h1 : x ≤ m) (h2 : y ≤ m) : (if c then x else y) ≤ m := by
 by_cases h : c
 ·rw [if_pos h]; exact h1
 ·rw [if_neg h]; exact h2
theorem textA_len (f : Nat) (k a b s n : Int) (ha : Joins.In64 a) (hb : Joins.In64 b) (hs : Joins.In64 s) : (textA f k a b s n).length ≤ 70 := by
 have h1 := nameL_len f a n ha
 have h2 := nameL_len f b n hb
 have h3 := itoa_len s hs
 have h4 := itoa_len a ha
 have h5 := itoa_len b hb
 unfold textA
 simp only [apply_ite List.length, List.length_append, List.length_cons, List.length_nil]
 repeat' (refine ite_le ?_ ?_)
 all_goals omega
structure ItemsOk (items : List Atom) : Prop where
 six : items.length ≤ 6
 num : ∀ x ∈ items, x.k ≠ 7 ∧ Joins.In64 x.a ∧ Joins.In64 x.b ∧ Joins.In64 x.s
set_option maxHeartbeats 3200000 in
set_option maxRecDepth 1000000 in
theorem text_list (f : Nat) (hf : f < 7) (a b s n : Int) (ha : Joins.In64 a) (hb : Joins.In64 b) (hs : Joins.In64 s) (ia : Option Addr) (cap : Nat) (items : List Atom) (hO : ItemsOk items) (w : World) (hI : ItemsAt w ia items) (hE : Env w) :
 Calls Tryz.prog 37 #[.int .i64 f, .agg #[.int .i64 7, .int .i64 a, .int .i64 b, .int .i64 s, .int .i64 n, .slice ia items.length cap]] w fun e w' => e = .returned (.string (mk (joinL 44 (items.map (Atom.text f))))) ∧ Ext w w' := by
 obtain ⟨L, hL⟩ : ∃ L, L = items.length := ⟨_, rfl⟩
 have HL := Lib.hid hL
 have HI := Lib.hid hI
 have hl6 : L ≤ 6 := by rw [hL]; exact hO.six
 rw [← hL]
 clear hL hI
 obtain ⟨A, hA⟩ : ∃ A, A = mk (nameL f a n) := ⟨_, rfl⟩
 obtain ⟨B, hB⟩ : ∃ B, B = mk (nameL f b n) := ⟨_, rfl⟩
 obtain ⟨C, hC⟩ : ∃ C, C = mk (itoa s) := ⟨_, rfl⟩
 have HA : Hid (∀ W, Env W → Calls Tryz.prog 60 #[.int .i64 f, .int .i64 a, .int .i64 n] W fun e w' => e = .returned (.string A) ∧ Ext W w') := fun W hW => by rw [hA]; exact name_all f hf a n ha W hW
 have HB : Hid (∀ W, Env W → Calls Tryz.prog 60 #[.int .i64 f, .int .i64 b, .int .i64 n] W fun e w' => e = .returned (.string B) ∧ Ext W w') := fun W hW => by rw [hB]; exact name_all f hf b n hb W hW
 have HC : Hid (∀ W, Env W → Calls Tryz.prog 56 #[.int .i64 s] W fun e w' => e = .returned (.string C) ∧ Ext W w') := fun W hW => by rw [hC]; exact itoa_any s hs W hW
 clear hA hB hC
 have HX : Hid (Ext w (w.alloc (.cells #[.int .i64 7, .int .i64 a, .int .i64 b, .int .i64 s, .int .i64 n, .slice ia L cap] 24))) := Ext.alloc _ _
 have b0 : (w.alloc (.cells #[.int .i64 7, .int .i64 a, .int .i64 b, .int .i64 s, .int .i64 n, .slice ia L cap] 24)).cell? ⟨w.heap.size, 0, none⟩ = some (.int .i64 7) := by simp
 have b2 : (w.alloc (.cells #[.int .i64 7, .int .i64 a, .int .i64 b, .int .i64 s, .int .i64 n, .slice ia L cap] 24)).cell? ⟨w.heap.size, 2, none⟩ = some (.int .i64 b) := by simp
 have b3 : (w.alloc (.cells #[.int .i64 7, .int .i64 a, .int .i64 b, .int .i64 s, .int .i64 n, .slice ia L cap] 24)).cell? ⟨w.heap.size, 3, none⟩ = some (.int .i64 s) := by simp
 have b4 : (w.alloc (.cells #[.int .i64 7, .int .i64 a, .int .i64 b, .int .i64 s, .int .i64 n, .slice ia L cap] 24)).cell? ⟨w.heap.size, 4, none⟩ = some (.int .i64 n) := by simp
 have b5 : (w.alloc (.cells #[.int .i64 7, .int .i64 a, .int .i64 b, .int .i64 s, .int .i64 n, .slice ia L cap] 24)).cell? ⟨w.heap.size, 5, none⟩ = some (.slice ia L cap) := by simp
 have B0 := Lib.hid b0
 have B2 := Lib.hid b2
 have B3 := Lib.hid b3
 have B4 := Lib.hid b4
 have B5 := Lib.hid b5
 clear b0 b2 b3 b4 b5
 go_enter Tryz.func37, Tryz.ntmps37
 go_wp2_with fail
 go_at_call 60
 refine (HA.out _ (hE.ext HX.out)).mono ?_
 rintro e w1 ⟨rfl, x1⟩
 have b2 := x1.cell B2.out
 have b4 := x1.cell B4.out
 have X1 := Lib.hid x1
 clear x1
 go_wp2_with fail
 go_at_call 60
 refine (HB.out _ (hE.ext (HX.out.trans X1.out))).mono ?_
 rintro e w2 ⟨rfl, x2⟩
 have X2 := Lib.hid (X1.out.trans x2)
 have b3 := X2.out.cell B3.out
 clear x2 b2 b4
 go_wp2_with fail
 go_at_call 56
 refine (HC.out _ (hE.ext (HX.out.trans X2.out))).mono ?_
 rintro e w3 ⟨rfl, x3⟩
 have X3 := Lib.hid (X2.out.trans x3)
 clear x3 b3
 have b0 := X3.out.cell B0.out
 have b5 := X3.out.cell B5.out
 have X := Lib.hid (HX.out.trans X3.out)
 have EW := Lib.hid (hE.ext X.out)
 have C5 := Lib.hid b5
 clear B0 B2 B3 B4 B5 HX X1 X2 X3 HA HB HC
 go_wp2_with fail
 go_loopw [8, 9] (fun o i wr => ∃ (k : Nat) (O : ByteArray), k ≤ L ∧ i = .int .i64 k ∧ o = .string O ∧ Hid (O = mk (joinL 44 ((items.take k).map (Atom.text f)))) ∧ O.size ≤ k * 71 ∧ Hid (Ext w3 wr))
  (fun _ i _ => L - (RowKit.intOf i).toNat)
 case atStart => exact ⟨0, ⟨#[]⟩, Nat.zero_le _, rfl, rfl, rfl, Nat.zero_le _, Ext.refl _⟩
 case round =>
  obtain ⟨k, O, hk, rfl, rfl, HO, hsz, Hx⟩ := hrel
  have c5 : wr.cell? ⟨w.heap.size, 5, none⟩ = some (.slice ia L cap) := Hx.out.cell C5.out
  by_cases hlt : k < L
  ·have hkl : k < items.length := by have := HL.out; omega
   obtain ⟨bl, off, rfl, hc⟩ := HI.out (by intro e; rw [e] at hkl; simp at hkl)
   obtain ⟨x, hx⟩ : ∃ x, items[k]? = some x := ⟨_, List.getElem?_eq_getElem hkl⟩
   obtain ⟨d0, d1, d2, d3, d4, d5⟩ := hc k x hx
   obtain ⟨n7, na, nb, ns⟩ := hO.num x (List.mem_of_getElem? hx)
   have XX := X.out.trans Hx.out
   replace d0 := XX.cell d0
   replace d1 := XX.cell d1
   replace d2 := XX.cell d2
   replace d3 := XX.cell d3
   replace d4 := XX.cell d4
   replace d5 := XX.cell d5
   have h1 : items[k]'hkl = x := (List.getElem?_eq_some_iff.mp hx).2
   have HT : Hid (joinL 44 ((items.take (k + 1)).map (Atom.text f)) = if 0 < k then joinL 44 ((items.take k).map (Atom.text f)) ++ 44 :: Atom.text f x else Atom.text f x) := by
    show _ = _
    rw [List.take_succ_eq_append_getElem hkl, List.map_append, h1]
    by_cases h0 : 0 < k
    ·rw [if_pos h0]
     exact joinL_snoc 44 (Atom.text f x) _ (by intro e; have := congrArg List.length e; rw [List.length_map, List.length_take] at this; simp only [List.length_nil] at this; omega)
    ·have : k = 0 := by omega
     subst this
     rfl
   obtain ⟨xk, xa, xb, xs, xn, xit⟩ := x
   simp only at d0 d1 d2 d3 d4 d5 n7 na nb ns
   have HXX := Lib.hid XX
   have N7 := Lib.hid n7
   obtain ⟨tx, htx⟩ : ∃ tx, tx = mk (textA f xk xa xb xs xn) := ⟨_, rfl⟩
   have sx : tx.size ≤ 70 := by rw [htx, size_mk]; exact textA_len f xk xa xb xs xn na nb ns
   have HTX : Hid (tx = mk (Atom.text f ⟨xk, xa, xb, xs, xn, xit⟩)) := htx
   have HCX : Hid (∀ W, Env W → Calls Tryz.prog 37 #[.int .i64 f, .agg #[.int .i64 xk, .int .i64 xa, .int .i64 xb, .int .i64 xs, .int .i64 xn, xit]] W fun e w' => e = .returned (.string tx) ∧ Ext W w') := fun W hW => by
    rw [htx]; exact text_atom f hf xk xa xb xs xn na nb ns N7.out xit W hW
   clear XX hc hx h1 htx n7 na nb ns
   by_cases h0 : 0 < k
   ·go_wp2_with fail
    go_at_call 37
    refine (HCX.out _ (hE.ext HXX.out)).mono ?_
    rintro e w4 ⟨rfl, x4⟩
    have X4 := Lib.hid (Hx.out.trans x4)
    clear x4
    have Hn : Hid (O ++ mk [44] ++ tx = mk (joinL 44 ((items.take (k + 1)).map (Atom.text f)))) := by
     show _ = _
     rw [HT.out, if_pos h0, HO.out, HTX.out, mk_append, mk_append]
     simp
    have hsn : (O ++ mk [44] ++ tx).size ≤ (k + 1) * 71 := by
     have e : (O ++ mk [44] ++ tx).size = O.size + 1 + tx.size := by rw [ByteArray.size_append, ByteArray.size_append]; rfl
     rw [e]; omega
    go_wp2_with fail
    go_roundw
    case rel => exact ⟨k + 1, _, by omega, by go_num, rfl, Hn, hsn, X4⟩
    case measure => simp [RowKit.intOf]; omega
   ·go_wp2_with fail
    go_at_call 37
    refine (HCX.out _ (hE.ext HXX.out)).mono ?_
    rintro e w4 ⟨rfl, x4⟩
    have X4 := Lib.hid (Hx.out.trans x4)
    clear x4
    have Hn : Hid (O ++ tx = mk (joinL 44 ((items.take (k + 1)).map (Atom.text f)))) := by
     show _ = _
     have : k = 0 := by omega
     subst this
     rw [HT.out, if_neg h0, HO.out, HTX.out, mk_append]
     rfl
    have hsn : (O ++ tx).size ≤ (k + 1) * 71 := by
     rw [ByteArray.size_append]; omega
    go_wp2_with fail
    go_roundw
    case rel => exact ⟨k + 1, _, by omega, by go_num, rfl, Hn, hsn, X4⟩
    case measure => simp [RowKit.intOf]; omega
  ·have hkL : items.take k = items := List.take_of_length_le (by have := HL.out; omega)
   have Hn : Hid (O = mk (joinL 44 (items.map (Atom.text f)))) := by show _ = _; rw [HO.out, hkL]
   clear hkL
   go_wp2_with fail
   go_ret
   exact ⟨ret_str Hn.out, X.out.trans Hx.out⟩
end Go.Proofs.YtmaffdhcmdhjfaaGreatDoor
namespace Go.Proofs.YtmaffdhcmdhjfaaGreatDoor
open Go.RowKit Go.Lib
structure PartV where
 k : Int
 a : Int
 b : Int
 s : Int
 n : Int
 ia : Option Addr
 cap : Nat
 items : List Atom
structure CronV where
 p : Nat → PartV
 six : Bool
def PartV.cells (p : PartV) : List Value := [.int .i64 p.k, .int .i64 p.a, .int .i64 p.b, .int .i64 p.s, .int .i64 p.n, .slice p.ia p.items.length p.cap]
def CronV.cells (c : CronV) : Array Value := List.toArray ((c.p 0).cells ++ ((c.p 1).cells ++ ((c.p 2).cells ++ ((c.p 3).cells ++ ((c.p 4).cells ++ ((c.p 5).cells ++ ((c.p 6).cells ++ [Value.bool c.six])))))))
structure CronAt (W : World) (B : Nat) (c : CronV) : Prop where
 k : ∀ j, j < 7 → W.cell? ⟨B, j * 6, none⟩ = some (.int .i64 (c.p j).k)
 a : ∀ j, j < 7 → W.cell? ⟨B, j * 6 + 1, none⟩ = some (.int .i64 (c.p j).a)
 b : ∀ j, j < 7 → W.cell? ⟨B, j * 6 + 2, none⟩ = some (.int .i64 (c.p j).b)
 s : ∀ j, j < 7 → W.cell? ⟨B, j * 6 + 3, none⟩ = some (.int .i64 (c.p j).s)
 n : ∀ j, j < 7 → W.cell? ⟨B, j * 6 + 4, none⟩ = some (.int .i64 (c.p j).n)
 it : ∀ j, j < 7 → W.cell? ⟨B, j * 6 + 5, none⟩ = some (.slice (c.p j).ia (c.p j).items.length (c.p j).cap)
 six : W.cell? ⟨B, 42, none⟩ = some (.bool c.six)
 blk : W.heap[B]? = some (.cells c.cells 27 (0, 0))
theorem CronAt.ext {W W' : World} {B : Nat} {c : CronV} (h : CronAt W B c) (x : Ext W W') : CronAt W' B c :=
 ⟨fun j hj => x.cell (h.k j hj), fun j hj => x.cell (h.a j hj), fun j hj => x.cell (h.b j hj), fun j hj => x.cell (h.s j hj), fun j hj => x.cell (h.n j hj), fun j hj => x.cell (h.it j hj), x.cell h.six, by
  have hl : B < W.heap.size := by
   rcases Nat.lt_or_ge B W.heap.size with hlt | hge
   ·exact hlt
   ·have := h.blk; rw [Array.getElem?_eq_none hge] at this; cases this
  rw [Below.block x B hl]; exact h.blk⟩
theorem u27 : (Tryz.prog.info? 27).map (·.size) = some 43 := by kernel_rfl
theorem CronV.size (c : CronV) : c.cells.size = 43 := rfl
theorem CronAt.load {W : World} {B : Nat} {c : CronV} (h : CronAt W B c) : (loadVar 27 ⟨B, 0, none⟩).run Tryz.prog W = .ok (.agg c.cells) W :=
 run_loadVar_row W B 27 27 c.cells (0, 0) _ h.blk Tryz.underlying27 rfl (by rw [c.size]; exact u27)
theorem wpList_load_cron {ops : Array Oper} {rest : List Oper} {o : Oper} {a : Act} {w : World} {Q : Exit → Act → World → Prop} (hw : Region.wanted o (yielded ops a.tmps) = true) (x : Operand) (ho : o.op = .load 27 x)
 (g : Nat) (hx : a.eval x = .pointer (some ⟨g, 0, none⟩)) (c : CronV) (hg : w.heap[g]? = some (.cells c.cells 27 (0, 0)))
 (h : wpList Tryz.prog ops Q rest (a.put o.dst (.agg c.cells)) w) : wpList Tryz.prog ops Q (o :: rest) a w :=
 BigFrame.wpList_want hw fun _ hK => wp_load_row 27 x ho g hx 27 c.cells (0, 0) _ hg Tryz.underlying27 rfl (by rw [c.size]; exact u27) (hK _ _ h)
theorem lt7 {j : Nat} (h : j < 7) : j = 0 ∨ j = 1 ∨ j = 2 ∨ j = 3 ∨ j = 4 ∨ j = 5 ∨ j = 6 := by omega
theorem cron_alloc (w : World) (c : CronV) : CronAt (w.alloc (.cells c.cells 27)) w.heap.size c := by
 have hc : ∀ i, (w.alloc (.cells c.cells 27)).cell? ⟨w.heap.size, i, none⟩ = c.cells[i]? := fun i => by simp
 refine ⟨?_, ?_, ?_, ?_, ?_, ?_, by rw [hc]; rfl, heap_alloc_new _ _⟩
 all_goals
  intro j hj
  rw [hc]
  rcases lt7 hj with rfl | rfl | rfl | rfl | rfl | rfl | rfl <;> rfl
structure PartOk (p : PartV) : Prop where
 a : Joins.In64 p.a
 b : Joins.In64 p.b
 s : Joins.In64 p.s
 items : p.k = 7 → ItemsOk p.items
def PartV.text (f : Nat) (p : PartV) : List UInt8 := textP f p.k p.a p.b p.s p.n p.items
def PartV.it (p : PartV) : Value := .slice p.ia p.items.length p.cap
theorem text_part (f : Nat) (hf : f < 7) (p : PartV) (hp : PartOk p) (w : World) (hI : ItemsAt w p.ia p.items) (hE : Env w) :
 Calls Tryz.prog 37 #[.int .i64 f, .agg #[.int .i64 p.k, .int .i64 p.a, .int .i64 p.b, .int .i64 p.s, .int .i64 p.n, .slice p.ia p.items.length p.cap]] w fun e w' => e = .returned (.string (mk (p.text f))) ∧ Ext w w' := by
 obtain ⟨k, a, b, s, n, ia, cap, items⟩ := p
 obtain ⟨ha, hb, hs, hit⟩ := hp
 simp only at ha hb hs hit hI
 unfold PartV.text textP
 simp only
 by_cases h7 : k = 7
 ·subst h7
  rw [if_pos rfl]
  exact text_list f hf a b s n ha hb hs ia cap items (hit rfl) w hI hE
 ·rw [if_neg h7]
  exact text_atom f hf k a b s n ha hb hs h7 _ w hE
theorem joinL_len (c : UInt8) : ∀ L : List (List UInt8), (∀ x ∈ L, x.length ≤ 70) → (joinL c L).length ≤ 71 * L.length
 | [], _ => by simp [joinL]
 | [x], h => by have := h x (by simp); show x.length ≤ _; simp; omega
 | x :: y :: r, h => by
   have h1 := h x (by simp)
   have h2 := joinL_len c (y :: r) (fun z hz => h z (by simp only [List.mem_cons] at hz ⊢; exact .inr hz))
   show (x ++ c :: joinL c (y :: r)).length ≤ _
   simp only [List.length_append, List.length_cons] at h2 ⊢
   omega
theorem part_len {f : Nat} {p : PartV} (hp : PartOk p) : (p.text f).length ≤ 430 := by
 unfold PartV.text textP
 split
 ·rename_i h7
  have hi := hp.items h7
  have := joinL_len 44 (p.items.map (Atom.text f)) (by
   intro x hx
   simp only [List.mem_map] at hx
   obtain ⟨y, hy, rfl⟩ := hx
   obtain ⟨_, h1, h2, h3⟩ := hi.num y hy
   exact textA_len f _ _ _ _ _ h1 h2 h3)
  have h6 := hi.six
  rw [List.length_map] at this
  omega
 ·have := textA_len f p.k p.a p.b p.s p.n hp.a hp.b hp.s
  omega
def CronV.parts (c : CronV) (k : Nat) : List (List UInt8) := (List.range k).map fun j => (c.p j).text j
def CronV.text (c : CronV) : List UInt8 := joinL 32 (c.parts (if c.six then 6 else 7))
theorem parts_succ (c : CronV) (k : Nat) : c.parts (k + 1) = c.parts k ++ [(c.p k).text k] := by simp [CronV.parts, List.range_succ]
theorem parts_join (c : CronV) (k : Nat) : joinL 32 (c.parts (k + 1)) = if 0 < k then joinL 32 (c.parts k) ++ 32 :: (c.p k).text k else (c.p k).text k := by
 rw [parts_succ]
 by_cases h : 0 < k
 ·rw [if_pos h]
  exact joinL_snoc 32 _ _ (by intro e; have := congrArg List.length e; simp [CronV.parts] at this; omega)
 ·have : k = 0 := by omega
  subst this
  rfl
structure CronOk (c : CronV) : Prop where
 part : ∀ j, j < 7 → PartOk (c.p j)
def CronItems (W : World) (c : CronV) : Prop := ∀ j, j < 7 → ItemsAt W (c.p j).ia (c.p j).items
theorem CronItems.ext {W W' : World} {c : CronV} (h : CronItems W c) (x : Ext W W') : CronItems W' c := fun j hj => (h j hj).ext x
set_option maxHeartbeats 3200000 in
set_option maxRecDepth 1000000 in
theorem text_cron (c : CronV) (hO : CronOk c) (w : World) (hI : CronItems w c) (hE : Env w) :
 Calls Tryz.prog 14 #[.agg c.cells] w fun e w' => e = .returned (.string (mk c.text)) ∧ Ext w w' := by
 obtain ⟨six, hsix⟩ : ∃ six, six = c.six := ⟨_, rfl⟩
 have HS : Hid (c.text = joinL 32 (c.parts (if six then 6 else 7))) := by rw [hsix]; rfl
 have HC : Hid (CronAt (w.alloc (.cells c.cells 27)) w.heap.size c) := cron_alloc w c
 have HX : Hid (Ext w (w.alloc (.cells c.cells 27))) := Ext.alloc _ _
 have H42 : Hid ((w.alloc (.cells c.cells 27)).cell? ⟨w.heap.size, 42, none⟩ = some (.bool six)) := by rw [hsix]; exact HC.out.six
 have HI := Lib.hid hI
 have HO := Lib.hid hO
 clear hsix hI hO
 go_enter Tryz.func14, Tryz.ntmps14
 go_wp2_with fail
 go_loopw [3, 4] (fun o i wr => ∃ (k : Nat) (O : ByteArray), k ≤ (if six then 6 else 7) ∧ i = .int .i64 k ∧ o = .string O ∧ Hid (O = mk (joinL 32 (c.parts k))) ∧ O.size ≤ k * 431 ∧ Hid (Ext (w.alloc (.cells c.cells 27)) wr))
  (fun _ i _ => 7 - (RowKit.intOf i).toNat)
 case atStart => exact ⟨0, ⟨#[]⟩, Nat.zero_le _, rfl, rfl, rfl, Nat.zero_le _, Ext.refl _⟩
 case round =>
  obtain ⟨k, O, hk, rfl, rfl, HO2, hsz, Hx⟩ := hrel
  have c42 : wr.cell? ⟨w.heap.size, 42, none⟩ = some (.bool six) := Hx.out.cell H42.out
  have hk7 : k ≤ 7 := by cases six <;> simp at hk <;> omega
  by_cases hlt : k < (if six then 6 else 7)
  ·have h7 : k < 7 := by cases six <;> simp at hlt <;> omega
   have h6 : k = 6 → six = false := by intro e; subst e; cases six <;> simp at hlt ⊢
   have CA := HC.out.ext Hx.out
   have d0 := CA.k k h7
   have d1 := CA.a k h7
   have d2 := CA.b k h7
   have d3 := CA.s k h7
   have d4 := CA.n k h7
   have d5 := CA.it k h7
   have XX := HX.out.trans Hx.out
   have hp := HO.out.part k h7
   have HT : Hid (joinL 32 (c.parts (k + 1)) = if 0 < k then joinL 32 (c.parts k) ++ 32 :: (c.p k).text k else (c.p k).text k) := parts_join c k
   obtain ⟨tx, htx⟩ : ∃ tx, tx = mk ((c.p k).text k) := ⟨_, rfl⟩
   have sx : tx.size ≤ 430 := by rw [htx, size_mk]; exact part_len hp
   have HCX : Hid (∀ W, Ext w W → Calls Tryz.prog 37 #[.int .i64 k, .agg #[.int .i64 (c.p k).k, .int .i64 (c.p k).a, .int .i64 (c.p k).b, .int .i64 (c.p k).s, .int .i64 (c.p k).n, .slice (c.p k).ia (c.p k).items.length (c.p k).cap]] W fun e w' => e = .returned (.string tx) ∧ Ext W w') := fun W hW => by
    rw [htx]; exact text_part k h7 (c.p k) hp W ((HI.out k h7).ext hW) (hE.ext hW)
   have HTX := Lib.hid htx
   have HXX := Lib.hid XX
   generalize c.p k = pk at d0 d1 d2 d3 d4 d5 HCX HTX HT
   clear XX hp htx CA hlt hk
   obtain ⟨q0, q1, q2, q3, q4, q5, q6, q7⟩ := pk
   obtain ⟨L8, hL8⟩ : ∃ L8, L8 = q7.length := ⟨_, rfl⟩
   simp only at d0 d1 d2 d3 d4 d5 HCX
   rw [← hL8] at d5 HCX
   clear hL8
   by_cases h0 : 0 < k
   ·rcases six
    all_goals
     by_cases hk6 : k = 6
     ·first
       | (exact absurd (h6 hk6) (by decide))
       | (subst hk6
          clear h6
          go_wp2_with fail
          go_at_call 37
          refine (HCX.out _ HXX.out).mono ?_
          rintro e w4 ⟨rfl, x4⟩
          have X4 := Lib.hid (Hx.out.trans x4)
          clear x4
          have Hn : Hid (O ++ mk [32] ++ tx = mk (joinL 32 (c.parts 7))) := by
           show _ = _
           rw [HT.out, if_pos h0, HO2.out, HTX.out, mk_append, mk_append]
           simp
          have hsn : (O ++ mk [32] ++ tx).size ≤ 7 * 431 := by
           have e : (O ++ mk [32] ++ tx).size = O.size + 1 + tx.size := by rw [ByteArray.size_append, ByteArray.size_append]; rfl
           rw [e]; omega
          go_wp2_with fail
          go_roundw
          case rel => exact ⟨7, _, by simp, by go_num, rfl, Hn, hsn, X4⟩
          case measure => simp [RowKit.intOf])
     ·have hb6 : ((k : Int) == 6) = false := by rw [beq_eq_false_iff_ne]; omega
      clear h6
      go_wp2_with fail
      go_at_call 37
      refine (HCX.out _ HXX.out).mono ?_
      rintro e w4 ⟨rfl, x4⟩
      have X4 := Lib.hid (Hx.out.trans x4)
      clear x4
      have Hn : Hid (O ++ mk [32] ++ tx = mk (joinL 32 (c.parts (k + 1)))) := by
       show _ = _
       rw [HT.out, if_pos h0, HO2.out, HTX.out, mk_append, mk_append]
       simp
      have hsn : (O ++ mk [32] ++ tx).size ≤ (k + 1) * 431 := by
       have e : (O ++ mk [32] ++ tx).size = O.size + 1 + tx.size := by rw [ByteArray.size_append, ByteArray.size_append]; rfl
       rw [e]; omega
      go_wp2_with fail
      go_roundw
      case rel => exact ⟨k + 1, _, by simp; omega, by go_num, rfl, Hn, hsn, X4⟩
      case measure => simp [RowKit.intOf]; omega
   ·have hk0 : k = 0 := by omega
    subst hk0
    clear h6
    go_wp2_with fail
    go_at_call 37
    refine (HCX.out _ HXX.out).mono ?_
    rintro e w4 ⟨rfl, x4⟩
    have X4 := Lib.hid (Hx.out.trans x4)
    clear x4
    have Hn : Hid (O ++ tx = mk (joinL 32 (c.parts 1))) := by
     show _ = _
     rw [HT.out, if_neg h0, HO2.out, HTX.out, mk_append]
     rfl
    have hsn : (O ++ tx).size ≤ 1 * 431 := by
     rw [ByteArray.size_append]; omega
    go_wp2_with fail
    go_roundw
    case rel => exact ⟨1, _, by cases six <;> simp, by go_num, rfl, Hn, hsn, X4⟩
    case measure => simp [RowKit.intOf]
  ·have Hk : Hid (k = if six then 6 else 7) := by show _ = _; omega
   rcases six
   ·have hk' : k = 7 := Hk.out
    subst hk'
    go_wp2_with fail
    go_ret
    exact ⟨ret_str (by rw [HS.out]; exact HO2.out), HX.out.trans Hx.out⟩
   ·have hk' : k = 6 := Hk.out
    subst hk'
    go_wp2_with fail
    go_ret
    exact ⟨ret_str (by rw [HS.out]; exact HO2.out), HX.out.trans Hx.out⟩
end Go.Proofs.YtmaffdhcmdhjfaaGreatDoor
namespace Go.Proofs.YtmaffdhcmdhjfaaGreatDoor
open Go.RowKit Go.Lib
structure PartIn (p : PartV) : Prop where
 a : Joins.In64 p.a
 b : Joins.In64 p.b
 s : Joins.In64 p.s
 len : p.items.length ≤ 9223372036854775807
 item : ∀ x ∈ p.items, Joins.In64 x.a ∧ Joins.In64 x.b ∧ Joins.In64 x.s
structure CronIn (c : CronV) : Prop where
 part : ∀ j, j < 7 → PartIn (c.p j)
def PartV.rightB (f : Nat) (p : PartV) : Bool := YtmaffdhcmdhjfaaGreatDoor.rightB f p.k p.a p.b p.s p.n p.items
def toldK (k : Int) : Bool := !(k == 0) && !(k == 1)
def CronV.allB (c : CronV) (k : Nat) : Bool := (List.range k).all fun j => (c.p j).rightB j
def CronV.rightB (c : CronV) : Bool := c.allB 7 && (!(toldK (c.p 3).k && toldK (c.p 5).k) && decide (c.text.length ≤ 120))
theorem item_kind {f : Nat} {x : Atom} (h : itemB f x = true) : x.ok f := by
 unfold itemB at h
 simp only [Bool.and_eq_true, decide_eq_true_eq] at h
 exact ⟨h.2, by omega⟩
theorem right_items {f : Nat} {p : PartV} (h : p.rightB f = true) (h7 : p.k = 7) : ListOk f p.items ∧ p.items.length ≤ 6 := by
 unfold PartV.rightB YtmaffdhcmdhjfaaGreatDoor.rightB at h
 rw [h7] at h
 by_cases hn0 : p.n < 0
 ·rw [if_pos hn0] at h; cases h
 ·by_cases hn2 : 2 < p.n
  ·rw [if_neg hn0, if_pos hn2] at h; cases h
  ·rw [if_neg hn0, if_neg hn2, if_neg (by decide), if_neg (by decide), if_pos rfl] at h
   simp only [Bool.and_eq_true, decide_eq_true_eq, List.all_eq_true] at h
   exact ⟨⟨h.1.1, fun x hx => item_kind (h.2 x hx)⟩, h.1.2⟩
theorem part_ok {f : Nat} {p : PartV} (hi : PartIn p) (h : p.rightB f = true) : PartOk p where
 a := hi.a
 b := hi.b
 s := hi.s
 items := fun h7 => by
  obtain ⟨h1, h2⟩ := right_items h h7
  refine ⟨h2, fun x hx => ⟨?_, hi.item x hx⟩⟩
  have := (h1.ok x hx).kind
  omega
theorem all_right {c : CronV} {k : Nat} (h : c.allB k = true) (j : Nat) (hj : j < k) : (c.p j).rightB j = true := by
 unfold CronV.allB at h
 rw [List.all_eq_true] at h
 exact h j (by simpa using hj)
theorem all_succ (c : CronV) (k : Nat) : c.allB (k + 1) = (c.allB k && (c.p k).rightB k) := by simp [CronV.allB, List.range_succ]
theorem cron_ok {c : CronV} (hi : CronIn c) (h : c.allB 7 = true) : CronOk c := ⟨fun j hj => part_ok (hi.part j hj) (all_right h j hj)⟩
theorem right_part (f : Nat) (hf : f < 7) (p : PartV) (hp : p.items.length ≤ 9223372036854775807) (w : World) (hI : ItemsAt w p.ia p.items) :
 Calls Tryz.prog 35 #[.int .i64 f, .agg #[.int .i64 p.k, .int .i64 p.a, .int .i64 p.b, .int .i64 p.s, .int .i64 p.n, .slice p.ia p.items.length p.cap]] w fun e w' => e = .returned (.bool (p.rightB f)) ∧ Ext w w' := by
 obtain ⟨k, a, b, s, n, ia, cap, items⟩ := p
 simp only at hp hI
 unfold PartV.rightB
 simp only
 by_cases h7 : k = 7
 ·subst h7
  by_cases hn0 : n < 0
  ·have e : rightB f 7 a b s n items = false := by unfold rightB; rw [if_pos hn0]
   rw [e]
   have HX : Hid (Ext w (w.alloc (.cells #[.int .i64 7, .int .i64 a, .int .i64 b, .int .i64 s, .int .i64 n, .slice ia items.length cap] 24))) := Ext.alloc _ _
   obtain ⟨L, hL⟩ : ∃ L, L = items.length := ⟨_, rfl⟩
   rw [← hL] at HX ⊢
   clear hL e hI
   go_enter Tryz.func35, Tryz.ntmps35
   go_wp2_with fail
   go_ret
   exact ⟨rfl, HX.out⟩
  ·by_cases hn2 : 2 < n
   ·have e : rightB f 7 a b s n items = false := by unfold rightB; rw [if_neg hn0, if_pos hn2]
    rw [e]
    have HX : Hid (Ext w (w.alloc (.cells #[.int .i64 7, .int .i64 a, .int .i64 b, .int .i64 s, .int .i64 n, .slice ia items.length cap] 24))) := Ext.alloc _ _
    obtain ⟨L, hL⟩ : ∃ L, L = items.length := ⟨_, rfl⟩
    rw [← hL] at HX ⊢
    clear hL e hI
    go_enter Tryz.func35, Tryz.ntmps35
    go_wp2_with fail
    go_ret
    exact ⟨rfl, HX.out⟩
   ·exact right_list f hf a b s n (by omega) (by omega) ia cap items hp w hI
 ·exact right_atom f hf k a b s n h7 _ items w
theorem told_part (p : PartV) (w : World) :
 Calls Tryz.prog 36 #[.agg #[.int .i64 p.k, .int .i64 p.a, .int .i64 p.b, .int .i64 p.s, .int .i64 p.n, .slice p.ia p.items.length p.cap]] w fun e w' => e = .returned (.bool (toldK p.k)) ∧ Ext w w' :=
 told_any p.k p.a p.b p.s p.n _ w
set_option maxHeartbeats 3200000 in
set_option maxRecDepth 1000000 in
theorem right_cron (c : CronV) (hO : CronIn c) (w : World) (hI : CronItems w c) (hE : Env w) :
 Calls Tryz.prog 13 #[.agg c.cells] w fun e w' => e = .returned (.bool c.rightB) ∧ Ext w w' := by
 have HC : Hid (CronAt (w.alloc (.cells c.cells 27)) w.heap.size c) := cron_alloc w c
 have HX : Hid (Ext w (w.alloc (.cells c.cells 27))) := Ext.alloc _ _
 have HI := Lib.hid hI
 have HO := Lib.hid hO
 clear hI hO
 obtain ⟨R, hR⟩ : ∃ R, R = c.rightB := ⟨_, rfl⟩
 rw [← hR]
 have HR : Hid (R = (c.allB 7 && (!(toldK (c.p 3).k && toldK (c.p 5).k) && decide (c.text.length ≤ 120)))) := hR
 clear hR
 go_enter Tryz.func13, Tryz.ntmps13
 go_wp2_with fail
 go_loopw [3] (fun i wr => ∃ (k : Nat), k ≤ 7 ∧ i = .int .i64 k ∧ Hid (c.allB k = true) ∧ Hid (Ext (w.alloc (.cells c.cells 27)) wr))
  (fun i _ => 7 - (RowKit.intOf i).toNat)
 case atStart => exact ⟨0, Nat.zero_le _, rfl, rfl, Ext.refl _⟩
 case round =>
  obtain ⟨k, hk, rfl, HA, Hx⟩ := hrel
  by_cases hlt : k < 7
  ·have CA := HC.out.ext Hx.out
   have d0 := CA.k k hlt
   have d1 := CA.a k hlt
   have d2 := CA.b k hlt
   have d3 := CA.s k hlt
   have d4 := CA.n k hlt
   have d5 := CA.it k hlt
   have XX := HX.out.trans Hx.out
   have hp := HO.out.part k hlt
   have HCX : Hid (∀ W, Ext w W → Calls Tryz.prog 35 #[.int .i64 k, .agg #[.int .i64 (c.p k).k, .int .i64 (c.p k).a, .int .i64 (c.p k).b, .int .i64 (c.p k).s, .int .i64 (c.p k).n, .slice (c.p k).ia (c.p k).items.length (c.p k).cap]] W fun e w' => e = .returned (.bool ((c.p k).rightB k)) ∧ Ext W w') := fun W hW =>
    right_part k hlt (c.p k) hp.len W ((HI.out k hlt).ext hW)
   have HAS : Hid (c.allB (k + 1) = (c.allB k && (c.p k).rightB k)) := all_succ c k
   have HRF : Hid ((c.p k).rightB k = false → R = false) := by
    intro hf
    have : c.allB 7 = false := by
     rcases hb : c.allB 7
     ·rfl
     ·rw [all_right hb k hlt] at hf; cases hf
    rw [HR.out, this]; rfl
   have HXX := Lib.hid XX
   generalize c.p k = pk at d0 d1 d2 d3 d4 d5 HCX HAS HRF
   clear XX hp CA
   obtain ⟨b, hb⟩ : ∃ b, b = pk.rightB k := ⟨_, rfl⟩
   rw [← hb] at HCX HAS HRF
   clear hb
   obtain ⟨q0, q1, q2, q3, q4, q5, q6, q7⟩ := pk
   obtain ⟨L8, hL8⟩ : ∃ L8, L8 = q7.length := ⟨_, rfl⟩
   simp only at d0 d1 d2 d3 d4 d5 HCX
   rw [← hL8] at d5 HCX
   clear hL8
   go_wp2_with fail
   go_at_call 35
   refine (HCX.out _ HXX.out).mono ?_
   rintro e w4 ⟨rfl, x4⟩
   have X4 := Lib.hid (Hx.out.trans x4)
   have XX4 := Lib.hid (HXX.out.trans x4)
   clear x4
   rcases b
   ·go_wp2_with fail
    go_ret
    exact ⟨ret_bool (HRF.out (by first | rfl | trivial)).symm, XX4.out⟩
   ·go_wp2_with fail
    go_roundw
    case rel => exact ⟨k + 1, by omega, by go_num, by show _ = _; rw [HAS.out, HA.out]; rfl, X4⟩
    case measure => simp [RowKit.intOf]; omega
  ·obtain rfl : k = 7 := by omega
   have CA := HC.out.ext Hx.out
   have d0 : wr.cell? ⟨w.heap.size, 18, none⟩ = some (.int .i64 (c.p 3).k) := CA.k 3 (by omega)
   have d1 : wr.cell? ⟨w.heap.size, 19, none⟩ = some (.int .i64 (c.p 3).a) := CA.a 3 (by omega)
   have d2 : wr.cell? ⟨w.heap.size, 20, none⟩ = some (.int .i64 (c.p 3).b) := CA.b 3 (by omega)
   have d3 : wr.cell? ⟨w.heap.size, 21, none⟩ = some (.int .i64 (c.p 3).s) := CA.s 3 (by omega)
   have d4 : wr.cell? ⟨w.heap.size, 22, none⟩ = some (.int .i64 (c.p 3).n) := CA.n 3 (by omega)
   have d5 : wr.cell? ⟨w.heap.size, 23, none⟩ = some (.slice (c.p 3).ia (c.p 3).items.length (c.p 3).cap) := CA.it 3 (by omega)
   have HXX := Lib.hid (HX.out.trans Hx.out)
   have HCA := Lib.hid CA
   have HT3 : Hid (∀ W, Calls Tryz.prog 36 #[.agg #[.int .i64 (c.p 3).k, .int .i64 (c.p 3).a, .int .i64 (c.p 3).b, .int .i64 (c.p 3).s, .int .i64 (c.p 3).n, .slice (c.p 3).ia (c.p 3).items.length (c.p 3).cap]] W fun e w' => e = .returned (.bool (toldK (c.p 3).k)) ∧ Ext W w') := told_part (c.p 3)
   have HT5 : Hid (∀ W, Calls Tryz.prog 36 #[.agg #[.int .i64 (c.p 5).k, .int .i64 (c.p 5).a, .int .i64 (c.p 5).b, .int .i64 (c.p 5).s, .int .i64 (c.p 5).n, .slice (c.p 5).ia (c.p 5).items.length (c.p 5).cap]] W fun e w' => e = .returned (.bool (toldK (c.p 5).k)) ∧ Ext W w') := told_part (c.p 5)
   clear CA
   have e0 : wr.cell? ⟨w.heap.size, 30, none⟩ = some (.int .i64 (c.p 5).k) := HCA.out.k 5 (by omega)
   have e1 : wr.cell? ⟨w.heap.size, 31, none⟩ = some (.int .i64 (c.p 5).a) := HCA.out.a 5 (by omega)
   have e2 : wr.cell? ⟨w.heap.size, 32, none⟩ = some (.int .i64 (c.p 5).b) := HCA.out.b 5 (by omega)
   have e3 : wr.cell? ⟨w.heap.size, 33, none⟩ = some (.int .i64 (c.p 5).s) := HCA.out.s 5 (by omega)
   have e4 : wr.cell? ⟨w.heap.size, 34, none⟩ = some (.int .i64 (c.p 5).n) := HCA.out.n 5 (by omega)
   have e5 : wr.cell? ⟨w.heap.size, 35, none⟩ = some (.slice (c.p 5).ia (c.p 5).items.length (c.p 5).cap) := HCA.out.it 5 (by omega)
   have E := Lib.hid (And.intro e0 (And.intro e1 (And.intro e2 (And.intro e3 (And.intro e4 e5)))))
   clear e0 e1 e2 e3 e4 e5
   have HTX : Hid (∀ W, Ext w W → Calls Tryz.prog 14 #[.agg c.cells] W fun e w' => e = .returned (.string (mk c.text)) ∧ Ext W w') := fun W hW =>
    text_cron c (cron_ok HO.out HA.out) W (HI.out.ext hW) (hE.ext hW)
   have htl : (mk c.text).size ≤ 3017 := by
    have h0 : ∀ (L : List (List UInt8)) (m : Nat), (∀ x ∈ L, x.length ≤ m) → (joinL 32 L).length ≤ (m + 1) * L.length := by
     intro L
     induction L with
     | nil => intro m _; simp [joinL]
     | cons x r ih =>
       intro m h
       cases r with
       | nil => have := h x (by simp); show x.length ≤ _; simp; omega
       | cons y r =>
         have h1 := h x (by simp)
         have h2 := ih m (fun z hz => h z (by simp only [List.mem_cons] at hz ⊢; exact .inr hz))
         show (x ++ 32 :: joinL 32 (y :: r)).length ≤ _
         simp only [List.length_append, List.length_cons] at h2 ⊢
         rw [Nat.mul_add, Nat.mul_one]
         omega
    rw [size_mk]
    have := h0 (c.parts (if c.six then 6 else 7)) 430 (by
     intro x hx
     simp only [CronV.parts, List.mem_map, List.mem_range] at hx
     obtain ⟨j, hj, rfl⟩ := hx
     exact part_len ((cron_ok HO.out HA.out).part j (by split at hj <;> omega)))
    have hl : (c.parts (if c.six then 6 else 7)).length ≤ 7 := by simp [CronV.parts]; split <;> omega
    unfold CronV.text
    omega
   obtain ⟨tx, htx⟩ : ∃ tx, tx = mk c.text := ⟨_, rfl⟩
   have HTL : Hid (tx.size = c.text.length) := by show _ = _; rw [htx]; rfl
   rw [← htx] at htl HTX
   clear htx
   obtain ⟨t3, ht3⟩ : ∃ t3, t3 = toldK (c.p 3).k := ⟨_, rfl⟩
   obtain ⟨t5, ht5⟩ : ∃ t5, t5 = toldK (c.p 5).k := ⟨_, rfl⟩
   rw [← ht3] at HR HT3
   rw [← ht5] at HR HT5
   clear ht3 ht5
   have HR2 : Hid (R = (!(t3 && t5) && decide (tx.size ≤ 120))) := by show _ = _; rw [HR.out, HA.out, HTL.out]; rfl
   go_wp2_with fail
   go_at_call 36
   refine (HT3.out _).mono ?_
   rintro e w4 ⟨rfl, x4⟩
   have X4 := Lib.hid x4
   clear x4 d0 d1 d2 d3 d4 d5
   rcases t3
   ·have hblk := (HCA.out.ext X4.out).blk
    have Hblk := Lib.hid hblk
    clear hblk
    go_wp2_with (refine wpList_load_cron rfl _ rfl w.heap.size rfl c Hblk.out ?_)
    go_at_call 14
    refine (HTX.out _ (HXX.out.trans X4.out)).mono ?_
    rintro e w5 ⟨rfl, x5⟩
    have X5 := Lib.hid x5
    clear x5
    go_wp2_with fail
    go_ret
    exact ⟨ret_bool (by rw [HR2.out]; simp <;> omega), (HXX.out.trans X4.out).trans X5.out⟩
   ·have e0 := X4.out.cell E.out.1
    have e1 := X4.out.cell E.out.2.1
    have e2 := X4.out.cell E.out.2.2.1
    have e3 := X4.out.cell E.out.2.2.2.1
    have e4 := X4.out.cell E.out.2.2.2.2.1
    have e5 := X4.out.cell E.out.2.2.2.2.2
    go_wp2_with fail
    go_at_call 36
    refine (HT5.out _).mono ?_
    rintro e w5 ⟨rfl, x5⟩
    have X5 := Lib.hid (X4.out.trans x5)
    clear x5 e0 e1 e2 e3 e4 e5
    rcases t5
    ·have hblk := (HCA.out.ext X5.out).blk
     have Hblk := Lib.hid hblk
     clear hblk
     go_wp2_with (refine wpList_load_cron rfl _ rfl w.heap.size rfl c Hblk.out ?_)
     go_at_call 14
     refine (HTX.out _ (HXX.out.trans X5.out)).mono ?_
     rintro e w6 ⟨rfl, x6⟩
     have X6 := Lib.hid x6
     clear x6
     go_wp2_with fail
     go_ret
     exact ⟨ret_bool (by rw [HR2.out]; simp <;> omega), (HXX.out.trans X5.out).trans X6.out⟩
    ·go_wp2_with fail
     go_ret
     exact ⟨ret_bool (by rw [HR2.out]; simp <;> omega), HXX.out.trans X5.out⟩
end Go.Proofs.YtmaffdhcmdhjfaaGreatDoor
namespace Go.Proofs.YtmaffdhcmdhjfaaGreatDoor
open Go.RowKit Go.Lib
theorem plain_any (k a b s n : Int) (it : Value) (w : World) :
 Calls Tryz.prog 41 #[.agg #[.int .i64 k, .int .i64 a, .int .i64 b, .int .i64 s, .int .i64 n, it]] w fun e w' => e = .returned (.bool (decide (k < 8))) ∧ Ext w w' := by
 go_enter Tryz.func41, Tryz.ntmps41
 go_wp2
 go_ret
 exact ⟨rfl, Ext.alloc _ _⟩
def PartV.dayN (p : PartV) : Int := if p.k = 8 then 1 else if p.k = 9 then -p.a else if p.k = 10 then 2 else if p.k = 11 then 3 else 0
def PartV.weekN (p : PartV) : Int := if p.k = 12 then -1 else if p.k = 13 then p.b else 0
set_option maxHeartbeats 3200000 in
set_option maxRecDepth 1000000 in
theorem special_cron (c : CronV) (h9 : (c.p 3).k = 9 → 1 ≤ (c.p 3).a ∧ (c.p 3).a ≤ 31) (w : World) :
 Calls Tryz.prog 16 #[.agg c.cells] w fun e w' => e = .returned (.tuple #[.int .i64 (c.p 3).dayN, .int .i64 (c.p 5).weekN]) ∧ Ext w w' := by
 have hC := cron_alloc w c
 have HX : Hid (Ext w (w.alloc (.cells c.cells 27))) := Ext.alloc _ _
 have d0 : (w.alloc (.cells c.cells 27)).cell? ⟨w.heap.size, 18, none⟩ = some (.int .i64 (c.p 3).k) := hC.k 3 (by omega)
 have d1 : (w.alloc (.cells c.cells 27)).cell? ⟨w.heap.size, 19, none⟩ = some (.int .i64 (c.p 3).a) := hC.a 3 (by omega)
 have e0 : (w.alloc (.cells c.cells 27)).cell? ⟨w.heap.size, 30, none⟩ = some (.int .i64 (c.p 5).k) := hC.k 5 (by omega)
 have e2 : (w.alloc (.cells c.cells 27)).cell? ⟨w.heap.size, 32, none⟩ = some (.int .i64 (c.p 5).b) := hC.b 5 (by omega)
 obtain ⟨x, hx⟩ : ∃ x, x = (c.p 3).dayN := ⟨_, rfl⟩
 obtain ⟨y, hy⟩ : ∃ y, y = (c.p 5).weekN := ⟨_, rfl⟩
 rw [← hx, ← hy]
 have HX3 := Lib.hid hx
 have HY5 := Lib.hid hy
 unfold PartV.dayN at HX3
 unfold PartV.weekN at HY5
 clear hx hy hC
 generalize (c.p 3).k = k3 at d0 HX3 h9
 generalize (c.p 3).a = a3 at d1 HX3 h9
 generalize (c.p 5).k = k5 at e0 HY5
 generalize (c.p 5).b = b5 at e2 HY5
 generalize hC : c.cells = C at d0 d1 e0 e2 HX
 clear hC
 have H9 := Lib.hid h9
 clear h9
 by_cases k8 : k3 = 8
 ·subst k8
  by_cases k12 : k5 = 12
  ·subst k12
   go_enter Tryz.func16, Tryz.ntmps16
   go_wp2_with fail
   exact bodyPost_ret (v := .tuple #[.int .i64 1, .int .i64 (-1)]) (by simp [results, Tryz.results16, go_sem]) rfl ⟨by rw [HX3.out, HY5.out] <;> rfl, HX.out⟩
  ·by_cases k13 : k5 = 13
   ·subst k13
    go_enter Tryz.func16, Tryz.ntmps16
    go_wp2_with fail
    exact bodyPost_ret (v := .tuple #[.int .i64 1, .int .i64 b5]) (by simp [results, Tryz.results16, go_sem]) rfl ⟨by rw [HX3.out, HY5.out] <;> rfl, HX.out⟩
   ·have f12 : (k5 == 12) = false := by rw [beq_eq_false_iff_ne]; exact k12
    have f13 : (k5 == 13) = false := by rw [beq_eq_false_iff_ne]; exact k13
    have HY6 : Hid (y = 0) := by show _ = _; rw [HY5.out, if_neg k12, if_neg k13]
    clear k12 k13
    go_enter Tryz.func16, Tryz.ntmps16
    go_wp2_with fail
    exact bodyPost_ret (v := .tuple #[.int .i64 1, .int .i64 0]) (by simp [results, Tryz.results16, go_sem]) rfl ⟨by rw [HX3.out, HY6.out] <;> rfl, HX.out⟩
 ·skip
  by_cases k9 : k3 = 9
  ·subst k9
   obtain ⟨g1, g2⟩ := H9.out rfl
   by_cases k12 : k5 = 12
   ·subst k12
    go_enter Tryz.func16, Tryz.ntmps16
    go_wp2_with fail
    exact bodyPost_ret (v := .tuple #[.int .i64 (-a3), .int .i64 (-1)]) (by simp [results, Tryz.results16, go_sem]) rfl ⟨by rw [HX3.out, HY5.out] <;> rfl, HX.out⟩
   ·by_cases k13 : k5 = 13
    ·subst k13
     go_enter Tryz.func16, Tryz.ntmps16
     go_wp2_with fail
     exact bodyPost_ret (v := .tuple #[.int .i64 (-a3), .int .i64 b5]) (by simp [results, Tryz.results16, go_sem]) rfl ⟨by rw [HX3.out, HY5.out] <;> rfl, HX.out⟩
    ·have f12 : (k5 == 12) = false := by rw [beq_eq_false_iff_ne]; exact k12
     have f13 : (k5 == 13) = false := by rw [beq_eq_false_iff_ne]; exact k13
     have HY6 : Hid (y = 0) := by show _ = _; rw [HY5.out, if_neg k12, if_neg k13]
     clear k12 k13
     go_enter Tryz.func16, Tryz.ntmps16
     go_wp2_with fail
     exact bodyPost_ret (v := .tuple #[.int .i64 (-a3), .int .i64 0]) (by simp [results, Tryz.results16, go_sem]) rfl ⟨by rw [HX3.out, HY6.out] <;> rfl, HX.out⟩
  ·skip
   by_cases k10 : k3 = 10
   ·subst k10
    by_cases k12 : k5 = 12
    ·subst k12
     go_enter Tryz.func16, Tryz.ntmps16
     go_wp2_with fail
     exact bodyPost_ret (v := .tuple #[.int .i64 2, .int .i64 (-1)]) (by simp [results, Tryz.results16, go_sem]) rfl ⟨by rw [HX3.out, HY5.out] <;> rfl, HX.out⟩
    ·by_cases k13 : k5 = 13
     ·subst k13
      go_enter Tryz.func16, Tryz.ntmps16
      go_wp2_with fail
      exact bodyPost_ret (v := .tuple #[.int .i64 2, .int .i64 b5]) (by simp [results, Tryz.results16, go_sem]) rfl ⟨by rw [HX3.out, HY5.out] <;> rfl, HX.out⟩
     ·have f12 : (k5 == 12) = false := by rw [beq_eq_false_iff_ne]; exact k12
      have f13 : (k5 == 13) = false := by rw [beq_eq_false_iff_ne]; exact k13
      have HY6 : Hid (y = 0) := by show _ = _; rw [HY5.out, if_neg k12, if_neg k13]
      clear k12 k13
      go_enter Tryz.func16, Tryz.ntmps16
      go_wp2_with fail
      exact bodyPost_ret (v := .tuple #[.int .i64 2, .int .i64 0]) (by simp [results, Tryz.results16, go_sem]) rfl ⟨by rw [HX3.out, HY6.out] <;> rfl, HX.out⟩
   ·skip
    by_cases k11 : k3 = 11
    ·subst k11
     by_cases k12 : k5 = 12
     ·subst k12
      go_enter Tryz.func16, Tryz.ntmps16
      go_wp2_with fail
      exact bodyPost_ret (v := .tuple #[.int .i64 3, .int .i64 (-1)]) (by simp [results, Tryz.results16, go_sem]) rfl ⟨by rw [HX3.out, HY5.out] <;> rfl, HX.out⟩
     ·by_cases k13 : k5 = 13
      ·subst k13
       go_enter Tryz.func16, Tryz.ntmps16
       go_wp2_with fail
       exact bodyPost_ret (v := .tuple #[.int .i64 3, .int .i64 b5]) (by simp [results, Tryz.results16, go_sem]) rfl ⟨by rw [HX3.out, HY5.out] <;> rfl, HX.out⟩
      ·have f12 : (k5 == 12) = false := by rw [beq_eq_false_iff_ne]; exact k12
       have f13 : (k5 == 13) = false := by rw [beq_eq_false_iff_ne]; exact k13
       have HY6 : Hid (y = 0) := by show _ = _; rw [HY5.out, if_neg k12, if_neg k13]
       clear k12 k13
       go_enter Tryz.func16, Tryz.ntmps16
       go_wp2_with fail
       exact bodyPost_ret (v := .tuple #[.int .i64 3, .int .i64 0]) (by simp [results, Tryz.results16, go_sem]) rfl ⟨by rw [HX3.out, HY6.out] <;> rfl, HX.out⟩
    ·skip
     have f8 : (k3 == 8) = false := by rw [beq_eq_false_iff_ne]; exact k8
     have f9 : (k3 == 9) = false := by rw [beq_eq_false_iff_ne]; exact k9
     have f10 : (k3 == 10) = false := by rw [beq_eq_false_iff_ne]; exact k10
     have f11 : (k3 == 11) = false := by rw [beq_eq_false_iff_ne]; exact k11
     have HX4 : Hid (x = 0) := by show _ = _; rw [HX3.out, if_neg k8, if_neg k9, if_neg k10, if_neg k11]
     clear k8 k9 k10 k11 H9
     by_cases k12 : k5 = 12
     ·subst k12
      go_enter Tryz.func16, Tryz.ntmps16
      go_wp2_with fail
      exact bodyPost_ret (v := .tuple #[.int .i64 0, .int .i64 (-1)]) (by simp [results, Tryz.results16, go_sem]) rfl ⟨by rw [HX4.out, HY5.out] <;> rfl, HX.out⟩
     ·by_cases k13 : k5 = 13
      ·subst k13
       go_enter Tryz.func16, Tryz.ntmps16
       go_wp2_with fail
       exact bodyPost_ret (v := .tuple #[.int .i64 0, .int .i64 b5]) (by simp [results, Tryz.results16, go_sem]) rfl ⟨by rw [HX4.out, HY5.out] <;> rfl, HX.out⟩
      ·have f12 : (k5 == 12) = false := by rw [beq_eq_false_iff_ne]; exact k12
       have f13 : (k5 == 13) = false := by rw [beq_eq_false_iff_ne]; exact k13
       have HY6 : Hid (y = 0) := by show _ = _; rw [HY5.out, if_neg k12, if_neg k13]
       clear k12 k13
       go_enter Tryz.func16, Tryz.ntmps16
       go_wp2_with fail
       exact bodyPost_ret (v := .tuple #[.int .i64 0, .int .i64 0]) (by simp [results, Tryz.results16, go_sem]) rfl ⟨by rw [HX4.out, HY6.out] <;> rfl, HX.out⟩
end Go.Proofs.YtmaffdhcmdhjfaaGreatDoor
