/- spec.text. -/
import Derived.Test.YtmaffdhcmdhjfaaGreatDoorSpD
namespace Go.Proofs.YtmaffdhcmdhjfaaGreatDoor
open Go.RowKit Go.Lib

theorem ret_str {a b : ByteArray} (h : a = b) : Ending.returned (.string a) = .returned (.string b) := by rw [h]
theorem mk_append (a b : List UInt8) : mk a ++ mk b = mk (a ++ b) := by
  refine mk_eq _ _ ?_
  simp [bytes, mk]
theorem nameL_len (f : Nat) (n named : Int) (h : Joins.In64 n) : (nameL f n named).length ≤ 21 := by
  have hi := itoa_len n h
  have hb : (baseL f n).length ≤ 21 := by
    unfold baseL
    split
    · rename_i h4
      have : n = 1 ∨ n = 2 ∨ n = 3 ∨ n = 4 ∨ n = 5 ∨ n = 6 ∨ n = 7 ∨ n = 8 ∨ n = 9 ∨ n = 10 ∨ n = 11 ∨ n = 12 := by omega
      rcases this with rfl | rfl | rfl | rfl | rfl | rfl | rfl | rfl | rfl | rfl | rfl | rfl <;> decide
    · split
      · rename_i h5
        have : n = 1 ∨ n = 2 ∨ n = 3 ∨ n = 4 ∨ n = 5 ∨ n = 6 ∨ n = 7 := by omega
        rcases this with rfl | rfl | rfl | rfl | rfl | rfl | rfl <;> decide
      · exact hi
  unfold nameL lowerL
  repeat' split
  · exact hi
  · simpa using hb
  · exact hb
theorem name_all (f : Nat) (hf : f < 7) (n named : Int) (h : Joins.In64 n) (w : World) (hE : Env w) :
    Calls Tryz.prog 60 #[.int .i64 f, .int .i64 n, .int .i64 named] w fun e w' => e = .returned (.string (mk (nameL f n named))) ∧ Ext w w' := by
  by_cases h0 : named = 0
  · subst h0; exact name_plain f hf n h w hE
  · exact name_any f hf n named h h0 w hE

set_option maxHeartbeats 3200000 in
set_option maxRecDepth 1000000 in
theorem text_atom (f : Nat) (hf : f < 7) (k a b s n : Int) (ha : Joins.In64 a) (hb : Joins.In64 b) (hs : Joins.In64 s) (hk7 : k ≠ 7) (it : Value) (w : World) (hE : Env w) :
    Calls Tryz.prog 37 #[.int .i64 f, .agg #[.int .i64 k, .int .i64 a, .int .i64 b, .int .i64 s, .int .i64 n, it]] w fun e w' => e = .returned (.string (mk (textA f k a b s n))) ∧ Ext w w' := by
  obtain ⟨A, hA⟩ : ∃ A, A = mk (nameL f a n) := ⟨_, rfl⟩
  obtain ⟨B, hB⟩ : ∃ B, B = mk (nameL f b n) := ⟨_, rfl⟩
  obtain ⟨C, hC⟩ : ∃ C, C = mk (itoa s) := ⟨_, rfl⟩
  obtain ⟨D, hD⟩ : ∃ D, D = mk (itoa a) := ⟨_, rfl⟩
  obtain ⟨E, hEq⟩ : ∃ E, E = mk (itoa b) := ⟨_, rfl⟩
  have sA : A.size ≤ 21 := by rw [hA, size_mk]; exact nameL_len f a n ha
  have sB : B.size ≤ 21 := by rw [hB, size_mk]; exact nameL_len f b n hb
  have sC : C.size ≤ 21 := by rw [hC, size_mk]; exact itoa_len s hs
  have sD : D.size ≤ 21 := by rw [hD, size_mk]; exact itoa_len a ha
  have sE : E.size ≤ 21 := by rw [hEq, size_mk]; exact itoa_len b hb
  have HA : Hid (∀ W, Env W → Calls Tryz.prog 60 #[.int .i64 f, .int .i64 a, .int .i64 n] W fun e w' => e = .returned (.string A) ∧ Ext W w') := fun W hW => by rw [hA]; exact name_all f hf a n ha W hW
  have HB : Hid (∀ W, Env W → Calls Tryz.prog 60 #[.int .i64 f, .int .i64 b, .int .i64 n] W fun e w' => e = .returned (.string B) ∧ Ext W w') := fun W hW => by rw [hB]; exact name_all f hf b n hb W hW
  have HC : Hid (∀ W, Env W → Calls Tryz.prog 56 #[.int .i64 s] W fun e w' => e = .returned (.string C) ∧ Ext W w') := fun W hW => by rw [hC]; exact itoa_any s hs W hW
  have HD : Hid (∀ W, Env W → Calls Tryz.prog 56 #[.int .i64 a] W fun e w' => e = .returned (.string D) ∧ Ext W w') := fun W hW => by rw [hD]; exact itoa_any a ha W hW
  have HE : Hid (∀ W, Env W → Calls Tryz.prog 56 #[.int .i64 b] W fun e w' => e = .returned (.string E) ∧ Ext W w') := fun W hW => by rw [hEq]; exact itoa_any b hb W hW
  obtain ⟨R, hR⟩ : ∃ R, R = mk (textA f k a b s n) := ⟨_, rfl⟩
  have HR : Hid (R = if k = 1 then mk [63] else if k = 2 then A else if k = 3 then A ++ mk [45] ++ B else if k = 4 then A ++ mk [47] ++ C else if k = 5 then mk [42, 47] ++ C
      else if k = 6 then A ++ mk [45] ++ B ++ mk [47] ++ C else if k = 8 then mk [76] else if k = 9 then mk [76, 45] ++ D else if k = 10 then D ++ mk [87] else if k = 11 then mk [76, 87] else if k = 12 then A ++ mk [76]
      else if k = 13 then A ++ mk [35] ++ E else mk [42]) := by
    show _ = _
    rw [hR, hA, hB, hC, hD, hEq]
    unfold textA
    simp only [apply_ite mk, mk_append, List.append_assoc, List.cons_append, List.nil_append]
  rw [← hR]
  clear hA hB hC hD hEq hR
  have HX : Hid (Ext w (w.alloc (.cells #[.int .i64 k, .int .i64 a, .int .i64 b, .int .i64 s, .int .i64 n, it] 24))) := Ext.alloc _ _
  have b0 : (w.alloc (.cells #[.int .i64 k, .int .i64 a, .int .i64 b, .int .i64 s, .int .i64 n, it] 24)).cell? ⟨w.heap.size, 0, none⟩ = some (.int .i64 k) := by simp
  have b1 : (w.alloc (.cells #[.int .i64 k, .int .i64 a, .int .i64 b, .int .i64 s, .int .i64 n, it] 24)).cell? ⟨w.heap.size, 1, none⟩ = some (.int .i64 a) := by simp
  have b2 : (w.alloc (.cells #[.int .i64 k, .int .i64 a, .int .i64 b, .int .i64 s, .int .i64 n, it] 24)).cell? ⟨w.heap.size, 2, none⟩ = some (.int .i64 b) := by simp
  have b3 : (w.alloc (.cells #[.int .i64 k, .int .i64 a, .int .i64 b, .int .i64 s, .int .i64 n, it] 24)).cell? ⟨w.heap.size, 3, none⟩ = some (.int .i64 s) := by simp
  have b4 : (w.alloc (.cells #[.int .i64 k, .int .i64 a, .int .i64 b, .int .i64 s, .int .i64 n, it] 24)).cell? ⟨w.heap.size, 4, none⟩ = some (.int .i64 n) := by simp
  have B0 := Lib.hid b0
  have B1 := Lib.hid b1
  have B2 := Lib.hid b2
  have B3 := Lib.hid b3
  have B4 := Lib.hid b4
  clear b0 b1 b2 b3 b4
  go_enter Tryz.func37, Tryz.ntmps37
  go_wp2_with fail
  go_at_call 60
  refine (HA.out _ (hE.ext HX.out)).mono ?_
  rintro e w1 ⟨rfl, x1⟩
  have b1 := x1.cell B1.out
  have b2 := x1.cell B2.out
  have b4 := x1.cell B4.out
  have X1 := Lib.hid x1
  clear x1
  go_wp2_with fail
  go_at_call 60
  refine (HB.out _ (hE.ext (HX.out.trans X1.out))).mono ?_
  rintro e w2 ⟨rfl, x2⟩
  have X2 := Lib.hid (X1.out.trans x2)
  have b3 := X2.out.cell B3.out
  clear x2 b1 b2 b4
  go_wp2_with fail
  go_at_call 56
  refine (HC.out _ (hE.ext (HX.out.trans X2.out))).mono ?_
  rintro e w3 ⟨rfl, x3⟩
  have X3 := Lib.hid (X2.out.trans x3)
  clear x3 b3
  have b0 := X3.out.cell B0.out
  have X := Lib.hid (HX.out.trans X3.out)
  have EW := Lib.hid (hE.ext X.out)
  have b1 := X3.out.cell B1.out
  have b2 := X3.out.cell B2.out
  clear B0 B1 B2 B3 B4 HX X1 X2 X3 HA HB HC
  by_cases k1 : k = 1
  · subst k1
    go_wp2_with fail
    go_ret
    exact ⟨ret_str (by rw [HR.out]; rfl), X.out⟩
  · skip
    by_cases k2 : k = 2
    · subst k2
      go_wp2_with fail
      go_ret
      exact ⟨ret_str (by rw [HR.out]; rfl), X.out⟩
    · skip
      by_cases k3 : k = 3
      · subst k3
        go_wp2_with fail
        go_ret
        exact ⟨ret_str (by rw [HR.out]; rfl), X.out⟩
      · skip
        by_cases k4 : k = 4
        · subst k4
          go_wp2_with fail
          go_ret
          exact ⟨ret_str (by rw [HR.out]; rfl), X.out⟩
        · skip
          by_cases k5 : k = 5
          · subst k5
            go_wp2_with fail
            go_ret
            exact ⟨ret_str (by rw [HR.out]; rfl), X.out⟩
          · skip
            by_cases k6 : k = 6
            · subst k6
              go_wp2_with fail
              go_ret
              exact ⟨ret_str (by rw [HR.out]; rfl), X.out⟩
            · skip
              by_cases k8 : k = 8
              · subst k8
                go_wp2_with fail
                go_ret
                exact ⟨ret_str (by rw [HR.out]; rfl), X.out⟩
              · skip
                by_cases k9 : k = 9
                · subst k9
                  go_wp2_with fail
                  go_at_call 56
                  refine (HD.out _ EW.out).mono ?_
                  rintro e w4 ⟨rfl, x4⟩
                  have X4 := Lib.hid (X.out.trans x4)
                  clear x4
                  go_wp2_with fail
                  go_ret
                  exact ⟨ret_str (by rw [HR.out]; rfl), X4.out⟩
                · skip
                  by_cases k10 : k = 10
                  · subst k10
                    go_wp2_with fail
                    go_at_call 56
                    refine (HD.out _ EW.out).mono ?_
                    rintro e w4 ⟨rfl, x4⟩
                    have X4 := Lib.hid (X.out.trans x4)
                    clear x4
                    go_wp2_with fail
                    go_ret
                    exact ⟨ret_str (by rw [HR.out]; rfl), X4.out⟩
                  · skip
                    by_cases k11 : k = 11
                    · subst k11
                      go_wp2_with fail
                      go_ret
                      exact ⟨ret_str (by rw [HR.out]; rfl), X.out⟩
                    · skip
                      by_cases k12 : k = 12
                      · subst k12
                        go_wp2_with fail
                        go_ret
                        exact ⟨ret_str (by rw [HR.out]; rfl), X.out⟩
                      · skip
                        by_cases k13 : k = 13
                        · subst k13
                          go_wp2_with fail
                          go_at_call 56
                          refine (HE.out _ EW.out).mono ?_
                          rintro e w4 ⟨rfl, x4⟩
                          have X4 := Lib.hid (X.out.trans x4)
                          clear x4
                          go_wp2_with fail
                          go_ret
                          exact ⟨ret_str (by rw [HR.out]; rfl), X4.out⟩
                        · skip
                          have HR2 : Hid (R = mk [42]) := by show _ = _; rw [HR.out, if_neg k1, if_neg k2, if_neg k3, if_neg k4, if_neg k5, if_neg k6, if_neg k8, if_neg k9, if_neg k10, if_neg k11, if_neg k12, if_neg k13]
                          clear HR
                          have e1 : (k == 1) = false := by rw [beq_eq_false_iff_ne]; exact k1
                          have e2 : (k == 2) = false := by rw [beq_eq_false_iff_ne]; exact k2
                          have e3 : (k == 3) = false := by rw [beq_eq_false_iff_ne]; exact k3
                          have e4 : (k == 4) = false := by rw [beq_eq_false_iff_ne]; exact k4
                          have e5 : (k == 5) = false := by rw [beq_eq_false_iff_ne]; exact k5
                          have e6 : (k == 6) = false := by rw [beq_eq_false_iff_ne]; exact k6
                          have e8 : (k == 8) = false := by rw [beq_eq_false_iff_ne]; exact k8
                          have e9 : (k == 9) = false := by rw [beq_eq_false_iff_ne]; exact k9
                          have e10 : (k == 10) = false := by rw [beq_eq_false_iff_ne]; exact k10
                          have e11 : (k == 11) = false := by rw [beq_eq_false_iff_ne]; exact k11
                          have e12 : (k == 12) = false := by rw [beq_eq_false_iff_ne]; exact k12
                          have e13 : (k == 13) = false := by rw [beq_eq_false_iff_ne]; exact k13
                          have e7 : (k == 7) = false := by rw [beq_eq_false_iff_ne]; exact hk7
                          clear hk7 k1 k2 k3 k4 k5 k6 k8 k9 k10 k11 k12 k13
                          go_wp2_with fail
                          go_ret
                          exact ⟨ret_str (by rw [HR2.out]; rfl), X.out⟩
theorem joinL_snoc (c : UInt8) (x : List UInt8) : ∀ L : List (List UInt8), L ≠ [] → joinL c (L ++ [x]) = joinL c L ++ c :: x
  | [], h => absurd rfl h
  | [y], _ => rfl
  | y :: z :: r, _ => by
    have := joinL_snoc c x (z :: r) (by simp)
    show y ++ c :: joinL c (z :: r ++ [x]) = (y ++ c :: joinL c (z :: r)) ++ c :: x
    rw [this]
    simp
theorem ite_le {c : Prop} [Decidable c] {x y m : Nat} (h1 : x ≤ m) (h2 : y ≤ m) : (if c then x else y) ≤ m := by
  by_cases h : c
  · rw [if_pos h]; exact h1
  · rw [if_neg h]; exact h2
theorem textA_len (f : Nat) (k a b s n : Int) (ha : Joins.In64 a) (hb : Joins.In64 b) (hs : Joins.In64 s) : (textA f k a b s n).length ≤ 70 := by
  have h1 := nameL_len f a n ha
  have h2 := nameL_len f b n hb
  have h3 := itoa_len s hs
  have h4 := itoa_len a ha
  have h5 := itoa_len b hb
  unfold textA
  simp only [apply_ite List.length, List.length_append, List.length_cons, List.length_nil]
  repeat' (refine ite_le ?_ ?_)
  all_goals omega

/-- what is asked of a list's items before they are told as text -/
structure ItemsOk (items : List Atom) : Prop where
  six : items.length ≤ 6
  num : ∀ x ∈ items, x.k ≠ 7 ∧ Joins.In64 x.a ∧ Joins.In64 x.b ∧ Joins.In64 x.s

set_option maxHeartbeats 3200000 in
set_option maxRecDepth 1000000 in
theorem text_list (f : Nat) (hf : f < 7) (a b s n : Int) (ha : Joins.In64 a) (hb : Joins.In64 b) (hs : Joins.In64 s) (ia : Option Addr) (cap : Nat) (items : List Atom) (hO : ItemsOk items) (w : World) (hI : ItemsAt w ia items) (hE : Env w) :
    Calls Tryz.prog 37 #[.int .i64 f, .agg #[.int .i64 7, .int .i64 a, .int .i64 b, .int .i64 s, .int .i64 n, .slice ia items.length cap]] w fun e w' => e = .returned (.string (mk (joinL 44 (items.map (Atom.text f))))) ∧ Ext w w' := by
  obtain ⟨L, hL⟩ : ∃ L, L = items.length := ⟨_, rfl⟩
  have HL := Lib.hid hL
  have HI := Lib.hid hI
  have hl6 : L ≤ 6 := by rw [hL]; exact hO.six
  rw [← hL]
  clear hL hI
  obtain ⟨A, hA⟩ : ∃ A, A = mk (nameL f a n) := ⟨_, rfl⟩
  obtain ⟨B, hB⟩ : ∃ B, B = mk (nameL f b n) := ⟨_, rfl⟩
  obtain ⟨C, hC⟩ : ∃ C, C = mk (itoa s) := ⟨_, rfl⟩
  have HA : Hid (∀ W, Env W → Calls Tryz.prog 60 #[.int .i64 f, .int .i64 a, .int .i64 n] W fun e w' => e = .returned (.string A) ∧ Ext W w') := fun W hW => by rw [hA]; exact name_all f hf a n ha W hW
  have HB : Hid (∀ W, Env W → Calls Tryz.prog 60 #[.int .i64 f, .int .i64 b, .int .i64 n] W fun e w' => e = .returned (.string B) ∧ Ext W w') := fun W hW => by rw [hB]; exact name_all f hf b n hb W hW
  have HC : Hid (∀ W, Env W → Calls Tryz.prog 56 #[.int .i64 s] W fun e w' => e = .returned (.string C) ∧ Ext W w') := fun W hW => by rw [hC]; exact itoa_any s hs W hW
  clear hA hB hC
  have HX : Hid (Ext w (w.alloc (.cells #[.int .i64 7, .int .i64 a, .int .i64 b, .int .i64 s, .int .i64 n, .slice ia L cap] 24))) := Ext.alloc _ _
  have b0 : (w.alloc (.cells #[.int .i64 7, .int .i64 a, .int .i64 b, .int .i64 s, .int .i64 n, .slice ia L cap] 24)).cell? ⟨w.heap.size, 0, none⟩ = some (.int .i64 7) := by simp
  have b2 : (w.alloc (.cells #[.int .i64 7, .int .i64 a, .int .i64 b, .int .i64 s, .int .i64 n, .slice ia L cap] 24)).cell? ⟨w.heap.size, 2, none⟩ = some (.int .i64 b) := by simp
  have b3 : (w.alloc (.cells #[.int .i64 7, .int .i64 a, .int .i64 b, .int .i64 s, .int .i64 n, .slice ia L cap] 24)).cell? ⟨w.heap.size, 3, none⟩ = some (.int .i64 s) := by simp
  have b4 : (w.alloc (.cells #[.int .i64 7, .int .i64 a, .int .i64 b, .int .i64 s, .int .i64 n, .slice ia L cap] 24)).cell? ⟨w.heap.size, 4, none⟩ = some (.int .i64 n) := by simp
  have b5 : (w.alloc (.cells #[.int .i64 7, .int .i64 a, .int .i64 b, .int .i64 s, .int .i64 n, .slice ia L cap] 24)).cell? ⟨w.heap.size, 5, none⟩ = some (.slice ia L cap) := by simp
  have B0 := Lib.hid b0
  have B2 := Lib.hid b2
  have B3 := Lib.hid b3
  have B4 := Lib.hid b4
  have B5 := Lib.hid b5
  clear b0 b2 b3 b4 b5
  go_enter Tryz.func37, Tryz.ntmps37
  go_wp2_with fail
  go_at_call 60
  refine (HA.out _ (hE.ext HX.out)).mono ?_
  rintro e w1 ⟨rfl, x1⟩
  have b2 := x1.cell B2.out
  have b4 := x1.cell B4.out
  have X1 := Lib.hid x1
  clear x1
  go_wp2_with fail
  go_at_call 60
  refine (HB.out _ (hE.ext (HX.out.trans X1.out))).mono ?_
  rintro e w2 ⟨rfl, x2⟩
  have X2 := Lib.hid (X1.out.trans x2)
  have b3 := X2.out.cell B3.out
  clear x2 b2 b4
  go_wp2_with fail
  go_at_call 56
  refine (HC.out _ (hE.ext (HX.out.trans X2.out))).mono ?_
  rintro e w3 ⟨rfl, x3⟩
  have X3 := Lib.hid (X2.out.trans x3)
  clear x3 b3
  have b0 := X3.out.cell B0.out
  have b5 := X3.out.cell B5.out
  have X := Lib.hid (HX.out.trans X3.out)
  have EW := Lib.hid (hE.ext X.out)
  have C5 := Lib.hid b5
  clear B0 B2 B3 B4 B5 HX X1 X2 X3 HA HB HC
  go_wp2_with fail
  go_loopw [8, 9] (fun o i wr => ∃ (k : Nat) (O : ByteArray), k ≤ L ∧ i = .int .i64 k ∧ o = .string O ∧ Hid (O = mk (joinL 44 ((items.take k).map (Atom.text f)))) ∧ O.size ≤ k * 71 ∧ Hid (Ext w3 wr))
    (fun _ i _ => L - (RowKit.intOf i).toNat)
  case atStart => exact ⟨0, ⟨#[]⟩, Nat.zero_le _, rfl, rfl, rfl, Nat.zero_le _, Ext.refl _⟩
  case round =>
    obtain ⟨k, O, hk, rfl, rfl, HO, hsz, Hx⟩ := hrel
    have c5 : wr.cell? ⟨w.heap.size, 5, none⟩ = some (.slice ia L cap) := Hx.out.cell C5.out
    by_cases hlt : k < L
    · have hkl : k < items.length := by have := HL.out; omega
      obtain ⟨bl, off, rfl, hc⟩ := HI.out (by intro e; rw [e] at hkl; simp at hkl)
      obtain ⟨x, hx⟩ : ∃ x, items[k]? = some x := ⟨_, List.getElem?_eq_getElem hkl⟩
      obtain ⟨d0, d1, d2, d3, d4, d5⟩ := hc k x hx
      obtain ⟨n7, na, nb, ns⟩ := hO.num x (List.mem_of_getElem? hx)
      have XX := X.out.trans Hx.out
      replace d0 := XX.cell d0
      replace d1 := XX.cell d1
      replace d2 := XX.cell d2
      replace d3 := XX.cell d3
      replace d4 := XX.cell d4
      replace d5 := XX.cell d5
      have h1 : items[k]'hkl = x := (List.getElem?_eq_some_iff.mp hx).2
      have HT : Hid (joinL 44 ((items.take (k + 1)).map (Atom.text f)) = if 0 < k then joinL 44 ((items.take k).map (Atom.text f)) ++ 44 :: Atom.text f x else Atom.text f x) := by
        show _ = _
        rw [List.take_succ_eq_append_getElem hkl, List.map_append, h1]
        by_cases h0 : 0 < k
        · rw [if_pos h0]
          exact joinL_snoc 44 (Atom.text f x) _ (by intro e; have := congrArg List.length e; rw [List.length_map, List.length_take] at this; simp only [List.length_nil] at this; omega)
        · have : k = 0 := by omega
          subst this
          rfl
      obtain ⟨xk, xa, xb, xs, xn, xit⟩ := x
      simp only at d0 d1 d2 d3 d4 d5 n7 na nb ns
      have HXX := Lib.hid XX
      have N7 := Lib.hid n7
      obtain ⟨tx, htx⟩ : ∃ tx, tx = mk (textA f xk xa xb xs xn) := ⟨_, rfl⟩
      have sx : tx.size ≤ 70 := by rw [htx, size_mk]; exact textA_len f xk xa xb xs xn na nb ns
      have HTX : Hid (tx = mk (Atom.text f ⟨xk, xa, xb, xs, xn, xit⟩)) := htx
      have HCX : Hid (∀ W, Env W → Calls Tryz.prog 37 #[.int .i64 f, .agg #[.int .i64 xk, .int .i64 xa, .int .i64 xb, .int .i64 xs, .int .i64 xn, xit]] W fun e w' => e = .returned (.string tx) ∧ Ext W w') := fun W hW => by
        rw [htx]; exact text_atom f hf xk xa xb xs xn na nb ns N7.out xit W hW
      clear XX hc hx h1 htx n7 na nb ns
      by_cases h0 : 0 < k
      · go_wp2_with fail
        go_at_call 37
        refine (HCX.out _ (hE.ext HXX.out)).mono ?_
        rintro e w4 ⟨rfl, x4⟩
        have X4 := Lib.hid (Hx.out.trans x4)
        clear x4
        have Hn : Hid (O ++ mk [44] ++ tx = mk (joinL 44 ((items.take (k + 1)).map (Atom.text f)))) := by
          show _ = _
          rw [HT.out, if_pos h0, HO.out, HTX.out, mk_append, mk_append]
          simp
        have hsn : (O ++ mk [44] ++ tx).size ≤ (k + 1) * 71 := by
          have e : (O ++ mk [44] ++ tx).size = O.size + 1 + tx.size := by rw [ByteArray.size_append, ByteArray.size_append]; rfl
          rw [e]; omega
        go_wp2_with fail
        go_roundw
        case rel => exact ⟨k + 1, _, by omega, by go_num, rfl, Hn, hsn, X4⟩
        case measure => simp [RowKit.intOf]; omega
      · go_wp2_with fail
        go_at_call 37
        refine (HCX.out _ (hE.ext HXX.out)).mono ?_
        rintro e w4 ⟨rfl, x4⟩
        have X4 := Lib.hid (Hx.out.trans x4)
        clear x4
        have Hn : Hid (O ++ tx = mk (joinL 44 ((items.take (k + 1)).map (Atom.text f)))) := by
          show _ = _
          have : k = 0 := by omega
          subst this
          rw [HT.out, if_neg h0, HO.out, HTX.out, mk_append]
          rfl
        have hsn : (O ++ tx).size ≤ (k + 1) * 71 := by
          rw [ByteArray.size_append]; omega
        go_wp2_with fail
        go_roundw
        case rel => exact ⟨k + 1, _, by omega, by go_num, rfl, Hn, hsn, X4⟩
        case measure => simp [RowKit.intOf]; omega
    · have hkL : items.take k = items := List.take_of_length_le (by have := HL.out; omega)
      have Hn : Hid (O = mk (joinL 44 (items.map (Atom.text f)))) := by show _ = _; rw [HO.out, hkL]
      clear hkL
      go_wp2_with fail
      go_ret
      exact ⟨ret_str Hn.out, X.out.trans Hx.out⟩
end Go.Proofs.YtmaffdhcmdhjfaaGreatDoor
