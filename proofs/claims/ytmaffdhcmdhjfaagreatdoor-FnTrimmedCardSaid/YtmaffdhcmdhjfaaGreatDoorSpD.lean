/- spec.right. -/
import Derived.Test.YtmaffdhcmdhjfaaGreatDoorSpC
import Derived.Test.YtmaffdhcmdhjfaaGreatDoorLawC
namespace Go.Proofs.YtmaffdhcmdhjfaaGreatDoor
open Go.RowKit Go.Lib

/-- the items of a list lie in a slice -/
def ItemsAt (W : World) (a : Option Addr) (items : List Atom) : Prop :=
  items ≠ [] → ∃ b o, a = some ⟨b, o, none⟩ ∧ ∀ (j : Nat) (x : Atom), items[j]? = some x →
    W.cell? ⟨b, o + j * 6, none⟩ = some (.int .i64 x.k) ∧ W.cell? ⟨b, o + j * 6 + 1, none⟩ = some (.int .i64 x.a) ∧ W.cell? ⟨b, o + j * 6 + 2, none⟩ = some (.int .i64 x.b) ∧
    W.cell? ⟨b, o + j * 6 + 3, none⟩ = some (.int .i64 x.s) ∧ W.cell? ⟨b, o + j * 6 + 4, none⟩ = some (.int .i64 x.n) ∧ W.cell? ⟨b, o + j * 6 + 5, none⟩ = some x.it
theorem ItemsAt.ext {W W' : World} {a : Option Addr} {items : List Atom} (h : ItemsAt W a items) (x : Ext W W') : ItemsAt W' a items := by
  intro hne
  obtain ⟨b, o, ha, hc⟩ := h hne
  refine ⟨b, o, ha, fun j y hj => ?_⟩
  obtain ⟨h0, h1, h2, h3, h4, h5⟩ := hc j y hj
  exact ⟨x.cell h0, x.cell h1, x.cell h2, x.cell h3, x.cell h4, x.cell h5⟩

def itemB (f : Nat) (x : Atom) : Bool := decide (0 ≤ x.n) && decide (x.n ≤ 2) && simpleB f x.k x.a x.b x.s
def rightB (f : Nat) (k a b s n : Int) (items : List Atom) : Bool :=
  if n < 0 then false else if 2 < n then false
  else if k = 0 then true else if k = 1 then true
  else if k = 7 then decide (2 ≤ items.length) && decide (items.length ≤ 6) && items.all (itemB f)
  else if k = 8 then decide (f = 3) else if k = 11 then decide (f = 3)
  else if k = 9 then decide (f = 3) && decide (1 ≤ a) && decide (a ≤ 31)
  else if k = 10 then decide (f = 3) && decide (1 ≤ a) && decide (a ≤ 31)
  else if k = 12 then decide (f = 5) && decide (1 ≤ a) && decide (a ≤ 7)
  else if k = 13 then decide (f = 5) && decide (1 ≤ a) && decide (a ≤ 7) && decide (1 ≤ b) && decide (b ≤ 5)
  else simpleB f k a b s

set_option maxHeartbeats 3200000 in
set_option maxRecDepth 1000000 in
theorem right_list (f : Nat) (hf : f < 7) (a b s n : Int) (hn0 : 0 ≤ n) (hn2 : n ≤ 2) (ia : Option Addr) (cap : Nat) (items : List Atom) (hl : items.length ≤ 9223372036854775807) (w : World) (hI : ItemsAt w ia items) :
    Calls Tryz.prog 35 #[.int .i64 f, .agg #[.int .i64 7, .int .i64 a, .int .i64 b, .int .i64 s, .int .i64 n, .slice ia items.length cap]] w fun e w' => e = .returned (.bool (rightB f 7 a b s n items)) ∧ Ext w w' := by
  obtain ⟨L, hL⟩ : ∃ L, L = items.length := ⟨_, rfl⟩
  have HL := Lib.hid hL
  have HI := Lib.hid hI
  rw [← hL] at hl
  have HR : Hid (rightB f 7 a b s n items = (decide (2 ≤ L) && decide (L ≤ 6) && items.all (itemB f))) := by
    show _ = _
    unfold rightB
    rw [if_neg (by omega), if_neg (by omega), hL]
    rfl
  have HX : Hid (Ext w (w.alloc (.cells #[.int .i64 7, .int .i64 a, .int .i64 b, .int .i64 s, .int .i64 n, .slice ia L cap] 24))) := Ext.alloc _ _
  rw [← hL]
  clear hL hI
  by_cases h2 : L < 2
  · go_enter Tryz.func35, Tryz.ntmps35
    go_wp2_with fail
    go_ret
    exact ⟨ret_bool (by rw [HR.out]; simp; omega), HX.out⟩
  · by_cases h6 : 6 < L
    · go_enter Tryz.func35, Tryz.ntmps35
      go_wp2_with fail
      go_ret
      exact ⟨ret_bool (by rw [HR.out]; simp; omega), HX.out⟩
    · obtain ⟨bl, off, rfl, hc⟩ := HI.out (by intro e; have := HL.out; rw [e] at this; simp at this; omega)
      have HC := Lib.hid hc
      clear hc
      go_enter Tryz.func35, Tryz.ntmps35
      go_wp2_with fail
      go_loopw [5] (fun i wr => ∃ k : Nat, k ≤ L ∧ i = .int .i64 k ∧ Hid ((items.take k).all (itemB f) = true) ∧ Hid (Ext (w.alloc (.cells #[.int .i64 7, .int .i64 a, .int .i64 b, .int .i64 s, .int .i64 n, .slice (some ⟨bl, off, none⟩) L cap] 24)) wr))
        (fun i _ => L - (RowKit.intOf i).toNat)
      case atStart => exact ⟨0, Nat.zero_le _, rfl, rfl, Ext.refl _⟩
      case round =>
        obtain ⟨k, hk, rfl, Ha, Hx⟩ := hrel
        have c5 : wr.cell? ⟨w.heap.size, 5, none⟩ = some (.slice (some ⟨bl, off, none⟩) L cap) := Hx.out.cell (by simp)
        by_cases hlt : k < L
        · obtain ⟨x, hx⟩ : ∃ x, items[k]? = some x := ⟨_, List.getElem?_eq_getElem (by have := HL.out; omega)⟩
          obtain ⟨d0, d1, d2, d3, d4, d5⟩ := HC.out k x hx
          have X := HX.out.trans Hx.out
          replace d0 := X.cell d0
          replace d1 := X.cell d1
          replace d2 := X.cell d2
          replace d3 := X.cell d3
          replace d4 := X.cell d4
          replace d5 := X.cell d5
          obtain ⟨xk, xa, xb, xs, xn, xit⟩ := x
          simp only at d0 d1 d2 d3 d4 d5
          have HXX := Lib.hid X
          have Hx' := Lib.hid hx
          clear X hx
          have hkl : k < items.length := by have := HL.out; omega
          have Hbad : Hid (itemB f ⟨xk, xa, xb, xs, xn, xit⟩ = false → rightB f 7 a b s n items = false) := by
            intro hb
            rw [HR.out]
            have : items.all (itemB f) = false := by
              rw [List.all_eq_false]
              refine ⟨_, List.mem_of_getElem? Hx'.out, ?_⟩
              rw [hb]; simp
            rw [this]; simp
          have Hgood : Hid (itemB f ⟨xk, xa, xb, xs, xn, xit⟩ = true → (items.take (k + 1)).all (itemB f) = true) := by
            intro hb
            have h1 : items[k]'hkl = ⟨xk, xa, xb, xs, xn, xit⟩ := (List.getElem?_eq_some_iff.mp Hx'.out).2
            rw [List.take_succ_eq_append_getElem hkl, List.all_append, Ha.out, h1]
            simp [hb]
          by_cases hx0 : xn < 0
          · have Hb : Hid (itemB f ⟨xk, xa, xb, xs, xn, xit⟩ = false) := by show _ = _; unfold itemB; simp; omega
            go_wp2_with fail
            go_ret
            exact ⟨ret_bool (Hbad.out Hb.out).symm, HXX.out⟩
          · by_cases hx2 : 2 < xn
            · have Hb : Hid (itemB f ⟨xk, xa, xb, xs, xn, xit⟩ = false) := by show _ = _; unfold itemB; simp; omega
              go_wp2_with fail
              go_ret
              exact ⟨ret_bool (Hbad.out Hb.out).symm, HXX.out⟩
            · have Hb : Hid (itemB f ⟨xk, xa, xb, xs, xn, xit⟩ = simpleB f xk xa xb xs) := by
                show _ = _
                unfold itemB
                have e1 : decide (0 ≤ xn) = true := by simp; omega
                have e2 : decide (xn ≤ 2) = true := by simp; omega
                simp only [e1, e2, Bool.true_and]
              go_wp2_with fail
              go_at_call 59
              refine (simple_any f hf xk xa xb xs xn xit _).mono ?_
              rintro e w1 ⟨rfl, x1⟩
              have HXX1 := Lib.hid (HXX.out.trans x1)
              have Hx1 := Lib.hid (Hx.out.trans x1)
              clear x1
              rcases hs : simpleB f xk xa xb xs
              · have Hs := Lib.hid hs
                clear hs
                go_wp2_with fail
                go_ret
                exact ⟨ret_bool (Hbad.out (Hb.out.trans Hs.out)).symm, HXX1.out⟩
              · have Hs := Lib.hid hs
                clear hs
                go_wp2_with fail
                go_roundw
                case rel => exact ⟨k + 1, by omega, by go_num, Hgood.out (Hb.out.trans Hs.out), Hx1⟩
                case measure => simp [RowKit.intOf]; omega
        · go_wp2_with fail
          go_ret
          have hkL : items.take k = items := List.take_of_length_le (by have := HL.out; omega)
          have ha := Ha.out
          rw [hkL] at ha
          exact ⟨ret_bool (by rw [HR.out, ha]; simp; omega), HX.out.trans Hx.out⟩
set_option maxHeartbeats 6400000 in
set_option maxRecDepth 1000000 in
theorem right_atom (f : Nat) (hf : f < 7) (k a b s n : Int) (hk7 : k ≠ 7) (it : Value) (items : List Atom) (w : World) :
    Calls Tryz.prog 35 #[.int .i64 f, .agg #[.int .i64 k, .int .i64 a, .int .i64 b, .int .i64 s, .int .i64 n, it]] w fun e w' => e = .returned (.bool (rightB f k a b s n items)) ∧ Ext w w' := by
  have HX : Hid (Ext w (w.alloc (.cells #[.int .i64 k, .int .i64 a, .int .i64 b, .int .i64 s, .int .i64 n, it] 24))) := Ext.alloc _ _
  obtain ⟨R, hR⟩ : ∃ R, R = rightB f k a b s n items := ⟨_, rfl⟩
  rw [← hR]
  have HR := Lib.hid hR
  clear hR
  by_cases hn0 : n < 0
  · have HRR : Hid (R = false) := by show _ = _; rw [HR.out]; unfold rightB; rw [if_pos hn0]
    go_enter Tryz.func35, Tryz.ntmps35
    go_wp2_with fail
    go_ret
    exact ⟨ret_bool HRR.out.symm, HX.out⟩
  · by_cases hn2 : 2 < n
    · have HRR : Hid (R = false) := by show _ = _; rw [HR.out]; unfold rightB; rw [if_neg hn0, if_pos hn2]
      go_enter Tryz.func35, Tryz.ntmps35
      go_wp2_with fail
      go_ret
      exact ⟨ret_bool HRR.out.symm, HX.out⟩
    · have HR1 := HR.out
      unfold rightB at HR1
      rw [if_neg hn0, if_neg hn2] at HR1
      replace HR1 := Lib.hid HR1
      clear HR
      by_cases k0 : k = 0
      · subst k0
        go_enter Tryz.func35, Tryz.ntmps35
        go_wp2_with fail
        go_ret
        exact ⟨ret_bool (by rw [HR1.out]; simp), HX.out⟩
      · skip
        by_cases k1 : k = 1
        · subst k1
          go_enter Tryz.func35, Tryz.ntmps35
          go_wp2_with fail
          go_ret
          exact ⟨ret_bool (by rw [HR1.out]; simp), HX.out⟩
        · skip
          by_cases k8 : k = 8
          · subst k8
            by_cases hf3 : f = 3
            · subst hf3
              go_enter Tryz.func35, Tryz.ntmps35
              go_wp2_with fail
              go_ret
              exact ⟨ret_bool (by rw [HR1.out]; simp), HX.out⟩
            · have e3 : ((f : Int) == 3) = false := by rw [beq_eq_false_iff_ne]; omega
              have Hf3 := Lib.hid hf3
              clear hf3
              go_enter Tryz.func35, Tryz.ntmps35
              go_wp2_with fail
              go_ret
              exact ⟨ret_bool (by rw [HR1.out]; simp [Hf3.out]), HX.out⟩
          · skip
            by_cases k11 : k = 11
            · subst k11
              by_cases hf3 : f = 3
              · subst hf3
                go_enter Tryz.func35, Tryz.ntmps35
                go_wp2_with fail
                go_ret
                exact ⟨ret_bool (by rw [HR1.out]; simp), HX.out⟩
              · have e3 : ((f : Int) == 3) = false := by rw [beq_eq_false_iff_ne]; omega
                have Hf3 := Lib.hid hf3
                clear hf3
                go_enter Tryz.func35, Tryz.ntmps35
                go_wp2_with fail
                go_ret
                exact ⟨ret_bool (by rw [HR1.out]; simp [Hf3.out]), HX.out⟩
            · skip
              by_cases k9 : k = 9
              · subst k9
                by_cases hf3 : f = 3
                · subst hf3
                  by_cases q1 : 1 ≤ a
                  · skip
                    by_cases q2 : a ≤ 31
                    · skip
                      go_enter Tryz.func35, Tryz.ntmps35
                      go_wp2_with fail
                      go_ret
                      exact ⟨ret_bool (by rw [HR1.out]; simp; omega), HX.out⟩
                    · skip
                      go_enter Tryz.func35, Tryz.ntmps35
                      go_wp2_with fail
                      go_ret
                      exact ⟨ret_bool (by rw [HR1.out]; simp; omega), HX.out⟩
                  · skip
                    go_enter Tryz.func35, Tryz.ntmps35
                    go_wp2_with fail
                    go_ret
                    exact ⟨ret_bool (by rw [HR1.out]; simp; omega), HX.out⟩
                · have e3 : ((f : Int) == 3) = false := by rw [beq_eq_false_iff_ne]; omega
                  have Hf3 := Lib.hid hf3
                  clear hf3
                  go_enter Tryz.func35, Tryz.ntmps35
                  go_wp2_with fail
                  go_ret
                  exact ⟨ret_bool (by rw [HR1.out]; simp [Hf3.out]), HX.out⟩
              · skip
                by_cases k10 : k = 10
                · subst k10
                  by_cases hf3 : f = 3
                  · subst hf3
                    by_cases q1 : 1 ≤ a
                    · skip
                      by_cases q2 : a ≤ 31
                      · skip
                        go_enter Tryz.func35, Tryz.ntmps35
                        go_wp2_with fail
                        go_ret
                        exact ⟨ret_bool (by rw [HR1.out]; simp; omega), HX.out⟩
                      · skip
                        go_enter Tryz.func35, Tryz.ntmps35
                        go_wp2_with fail
                        go_ret
                        exact ⟨ret_bool (by rw [HR1.out]; simp; omega), HX.out⟩
                    · skip
                      go_enter Tryz.func35, Tryz.ntmps35
                      go_wp2_with fail
                      go_ret
                      exact ⟨ret_bool (by rw [HR1.out]; simp; omega), HX.out⟩
                  · have e3 : ((f : Int) == 3) = false := by rw [beq_eq_false_iff_ne]; omega
                    have Hf3 := Lib.hid hf3
                    clear hf3
                    go_enter Tryz.func35, Tryz.ntmps35
                    go_wp2_with fail
                    go_ret
                    exact ⟨ret_bool (by rw [HR1.out]; simp [Hf3.out]), HX.out⟩
                · skip
                  by_cases k12 : k = 12
                  · subst k12
                    by_cases hf3 : f = 5
                    · subst hf3
                      by_cases q1 : 1 ≤ a
                      · skip
                        by_cases q2 : a ≤ 7
                        · skip
                          go_enter Tryz.func35, Tryz.ntmps35
                          go_wp2_with fail
                          go_ret
                          exact ⟨ret_bool (by rw [HR1.out]; simp; omega), HX.out⟩
                        · skip
                          go_enter Tryz.func35, Tryz.ntmps35
                          go_wp2_with fail
                          go_ret
                          exact ⟨ret_bool (by rw [HR1.out]; simp; omega), HX.out⟩
                      · skip
                        go_enter Tryz.func35, Tryz.ntmps35
                        go_wp2_with fail
                        go_ret
                        exact ⟨ret_bool (by rw [HR1.out]; simp; omega), HX.out⟩
                    · have e3 : ((f : Int) == 5) = false := by rw [beq_eq_false_iff_ne]; omega
                      have Hf3 := Lib.hid hf3
                      clear hf3
                      go_enter Tryz.func35, Tryz.ntmps35
                      go_wp2_with fail
                      go_ret
                      exact ⟨ret_bool (by rw [HR1.out]; simp [Hf3.out]), HX.out⟩
                  · skip
                    by_cases k13 : k = 13
                    · subst k13
                      by_cases hf3 : f = 5
                      · subst hf3
                        by_cases q1 : 1 ≤ a
                        · skip
                          by_cases q2 : a ≤ 7
                          · skip
                            by_cases q3 : 1 ≤ b
                            · skip
                              by_cases q4 : b ≤ 5
                              · skip
                                go_enter Tryz.func35, Tryz.ntmps35
                                go_wp2_with fail
                                go_ret
                                exact ⟨ret_bool (by rw [HR1.out]; simp; omega), HX.out⟩
                              · skip
                                go_enter Tryz.func35, Tryz.ntmps35
                                go_wp2_with fail
                                go_ret
                                exact ⟨ret_bool (by rw [HR1.out]; simp; omega), HX.out⟩
                            · skip
                              go_enter Tryz.func35, Tryz.ntmps35
                              go_wp2_with fail
                              go_ret
                              exact ⟨ret_bool (by rw [HR1.out]; simp; omega), HX.out⟩
                          · skip
                            go_enter Tryz.func35, Tryz.ntmps35
                            go_wp2_with fail
                            go_ret
                            exact ⟨ret_bool (by rw [HR1.out]; simp; omega), HX.out⟩
                        · skip
                          go_enter Tryz.func35, Tryz.ntmps35
                          go_wp2_with fail
                          go_ret
                          exact ⟨ret_bool (by rw [HR1.out]; simp; omega), HX.out⟩
                      · have e3 : ((f : Int) == 5) = false := by rw [beq_eq_false_iff_ne]; omega
                        have Hf3 := Lib.hid hf3
                        clear hf3
                        go_enter Tryz.func35, Tryz.ntmps35
                        go_wp2_with fail
                        go_ret
                        exact ⟨ret_bool (by rw [HR1.out]; simp [Hf3.out]), HX.out⟩
                    · skip
                      have HR2 : Hid (R = simpleB f k a b s) := by show _ = _; rw [HR1.out, if_neg k0, if_neg k1, if_neg hk7, if_neg k8, if_neg k11, if_neg k9, if_neg k10, if_neg k12, if_neg k13]
                      clear HR1
                      have e0 : (k == 0) = false := by rw [beq_eq_false_iff_ne]; exact k0
                      have e1 : (k == 1) = false := by rw [beq_eq_false_iff_ne]; exact k1
                      have e8 : (k == 8) = false := by rw [beq_eq_false_iff_ne]; exact k8
                      have e11 : (k == 11) = false := by rw [beq_eq_false_iff_ne]; exact k11
                      have e9 : (k == 9) = false := by rw [beq_eq_false_iff_ne]; exact k9
                      have e10 : (k == 10) = false := by rw [beq_eq_false_iff_ne]; exact k10
                      have e12 : (k == 12) = false := by rw [beq_eq_false_iff_ne]; exact k12
                      have e13 : (k == 13) = false := by rw [beq_eq_false_iff_ne]; exact k13
                      have e7 : (k == 7) = false := by rw [beq_eq_false_iff_ne]; exact hk7
                      clear hk7 k0 k1 k8 k11 k9 k10 k12 k13
                      go_enter Tryz.func35, Tryz.ntmps35
                      go_wp2_with fail
                      go_at_call 59
                      refine (simple_any f hf k a b s n it _).mono ?_
                      rintro e w1 ⟨rfl, x1⟩
                      have HX1 := Lib.hid (HX.out.trans x1)
                      clear x1
                      go_wp2_with fail
                      go_ret
                      exact ⟨ret_bool HR2.out.symm, HX1.out⟩
end Go.Proofs.YtmaffdhcmdhjfaaGreatDoor
