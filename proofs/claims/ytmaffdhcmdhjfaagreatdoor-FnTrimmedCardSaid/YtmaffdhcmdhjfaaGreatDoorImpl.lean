/- trimCronExpression, ValidateCronExpression, ZZFields, and impl.Valid, Trimmed, Fields. -/
import Derived.Test.YtmaffdhcmdhjfaaGreatDoorCron
namespace Go.Proofs.YtmaffdhcmdhjfaaGreatDoor
open Go.RowKit Go.Lib

theorem trim_cron (s : ByteArray) (w : World) (hs : s.size ≤ 4096) :
    Calls Tryz.prog 62 #[.string s] w fun e w' => e = .returned (.string (mk (trimL (bytes s)))) ∧ Ext w w' := by
  go_enter Tryz.func62, Tryz.ntmps62
  go_wp2_with fail
  go_at_call 79
  refine (zz_trimmed s _ hs).mono ?_
  rintro e w1 ⟨rfl, hx⟩
  go_wp2_with fail
  go_ret
  exact ⟨rfl, hx⟩
theorem zz_trim2 (s : ByteArray) (w : World) (hs : s.size ≤ 4096) :
    Calls Tryz.prog 44 #[.string s] w fun e w' => e = .returned (.string (mk (trimL (bytes s)))) ∧ Ext w w' := by
  go_enter Tryz.func44, Tryz.ntmps44
  go_wp2_with fail
  go_at_call 62
  refine (trim_cron s _ hs).mono ?_
  rintro e w1 ⟨rfl, hx⟩
  go_wp2_with fail
  go_ret
  exact ⟨rfl, hx⟩
theorem collapse_len : ∀ (l acc : List UInt8), (l.foldl colStep acc).length ≤ acc.length + l.length
  | [], acc => by simp
  | c :: l, acc => by
    have h1 := colStep_len acc c
    have h2 := collapse_len l (colStep acc c)
    simp only [List.foldl_cons, List.length_cons]; omega
theorem dropWhile_len {α : Type} (p : α → Bool) : ∀ l : List α, (l.dropWhile p).length ≤ l.length
  | [] => by simp
  | a :: l => by
    have := dropWhile_len p l
    rw [List.dropWhile_cons]; split <;> simp <;> omega
theorem trimL_len (l : List UInt8) : (trimL l).length ≤ l.length := by
  have h1 := collapse_len l []
  have h2 := dropWhile_len sp (collapse l)
  have h3 := dropWhile_len sp (stripF (collapse l)).reverse
  unfold trimL stripB
  unfold stripF collapse at *
  simp only [List.length_reverse, List.length_nil] at *
  omega

def exprO (l : List UInt8) : Option (List (List Int × Int)) := parseO (trimL l)

theorem validate (s : ByteArray) (w : World) (hs : s.size ≤ 900) (hE : Env w) :
    Calls Tryz.prog 40 #[.string s] w fun e w' => ((exprO (bytes s) ≠ none ∧ e = .returned .nilIface) ∨ (exprO (bytes s) = none ∧ ∃ t p, e = .returned (.iface t p))) ∧ Ext w w' := by
  have hl := trimL_len (bytes s)
  rw [bytes_length] at hl
  have Hl := Lib.hid hl
  clear hl
  go_enter Tryz.func40, Tryz.ntmps40
  go_wp2_with fail
  go_at_call 62
  refine (trim_cron s _ (by omega)).mono ?_
  rintro e w1 ⟨rfl, hx⟩
  go_wp2_with fail
  go_at_call 61
  refine (parse_cron _ _ (by rw [size_mk]; have := Hl.out; omega) (hE.ext hx)).mono ?_
  rintro e w2 ⟨⟨fs, v, hf, rfl, hF⟩ | ⟨hf, t, p, rfl⟩, hx2⟩
  · rw [bytes_mk] at hf
    have hne : exprO (bytes s) ≠ none := by unfold exprO; rw [hf]; simp
    have Hne := Lib.hid hne
    obtain ⟨B, ps, rfl, _⟩ := hF
    clear hf hne
    go_wp2_with fail
    go_ret
    exact ⟨.inl ⟨Hne.out, rfl⟩, hx.trans hx2⟩
  · rw [bytes_mk] at hf
    have Hf : Hid (exprO (bytes s) = none) := hf
    clear hf
    go_wp2_with fail
    go_ret
    exact ⟨.inr ⟨Hf.out, t, p, rfl⟩, hx.trans hx2⟩

theorem isText_len {l : List UInt8} (h : isTextB l = true) : l.length ≤ 120 := by
  unfold isTextB at h
  simp only [Bool.and_eq_true, decide_eq_true_eq] at h
  exact h.2

theorem impl_valid (s : ByteArray) (w : World) (hs : s.size ≤ 100000000) (hE : Env w) :
    Calls Tryz.prog 17 #[.string s] w fun e w' => e = .returned (.bool (isTextB (bytes s) && (exprO (bytes s)).isSome)) ∧ Ext w w' := by
  go_enter Tryz.func17, Tryz.ntmps17
  go_wp2_with fail
  go_at_call 38
  refine (is_text s _ hs).mono ?_
  rintro e w1 ⟨rfl, rfl⟩
  rcases ht : isTextB (bytes s)
  · have Ht := Lib.hid ht
    clear ht
    go_wp2_with fail
    go_ret
    exact ⟨ret_bool (by rw [Ht.out]; rfl), Ext.refl _⟩
  · have hl := isText_len ht
    rw [bytes_length] at hl
    have Ht := Lib.hid ht
    clear ht
    go_wp2_with fail
    go_at_call 40
    refine (validate s _ (by omega) hE).mono ?_
    rintro e w1 ⟨⟨hne, rfl⟩ | ⟨hf, t, p, rfl⟩, hx⟩
    · have Hb : Hid ((exprO (bytes s)).isSome = true) := by show _ = _; rw [Option.isSome_iff_ne_none]; exact hne
      clear hne
      go_wp2_with fail
      go_ret
      exact ⟨ret_bool (by rw [Ht.out, Hb.out]; rfl), hx⟩
    · have Hb : Hid ((exprO (bytes s)).isSome = false) := by show _ = _; rw [hf]; rfl
      clear hf
      go_wp2_with fail
      go_ret
      exact ⟨ret_bool (by rw [Ht.out, Hb.out]; rfl), hx⟩

theorem impl_trimmed (s : ByteArray) (w : World) (hs : s.size ≤ 100000000) (ht : isTextB (bytes s) = true) :
    Calls Tryz.prog 21 #[.string s] w fun e w' => e = .returned (.string (mk (trimL (bytes s)))) ∧ Ext w w' := by
  have hl := isText_len ht
  rw [bytes_length] at hl
  go_enter Tryz.func21, Tryz.ntmps21
  go_wp2_with fail
  go_at_call 38
  refine (is_text s _ hs).mono ?_
  rintro e w1 ⟨rfl, rfl⟩
  rw [ht]
  clear ht
  go_wp2_with fail
  go_at_call 44
  refine (zz_trim2 s _ (by omega)).mono ?_
  rintro e w1 ⟨rfl, hx⟩
  go_wp2_with fail
  go_ret
  exact ⟨rfl, hx⟩

/-- a slice of slices of numbers that the call made -/
def IntRows (w : World) (base : Nat) (v : Value) (ls : List (List Int)) : Prop :=
  ∃ xs, w.ownsRow base 38 1 v ls.length xs ∧ ∀ (i : Nat) (x : Value) (l : List Int), xs[i]? = some x → ls[i]? = some l → Ints w base x l
theorem IntRows.ext {w w' : World} {base : Nat} {v : Value} {ls : List (List Int)} (h : IntRows w base v ls) (x : Ext w w') : IntRows w' base v ls := by
  obtain ⟨xs, h1, h2⟩ := h
  exact ⟨xs, own_ext x h1, fun i y l a b => (h2 i y l a b).ext x⟩
theorem IntRows.nil (w : World) (base : Nat) : IntRows w base (.slice none 0 0) [] := ⟨[], World.ownsRow_nil _ _ _ _, fun i x l h => by simp at h⟩

theorem Ints.other {w w1 : World} {base b n : Nat} {x v : Value} {l : List Int} {xs : List Value} (h : Ints w base x l) (ho : w.ownsRow b 38 1 v n xs) (hg : w.grownBy w1 v.ownBlock) : Ints w1 base x l := by
  refine own_other h hg (fun g hx hv => ?_)
  rcases h.2 with ⟨rfl, _⟩ | ⟨g1, _, c1, rfl, _, h1, _⟩
  · cases hx
  · injection hx with hx; simp at hx; subst hx
    rcases ho.2 with ⟨rfl, _⟩ | ⟨g2, _, c2, rfl, _, h2, _⟩
    · cases hv
    · injection hv with hv; simp at hv; subst hv
      rw [h1] at h2; injection h2 with h2; injection h2 with _ h2; cases h2
theorem IntRows.snoc {w w1 : World} {base : Nat} {v v' x : Value} {ls : List (List Int)} {l : List Int} {xs : List Value} (ho : w.ownsRow base 38 1 v ls.length xs)
    (hi : ∀ (i : Nat) (x : Value) (l : List Int), xs[i]? = some x → ls[i]? = some l → Ints w base x l) (hx : Ints w base x l)
    (hn : w1.ownsRow base 38 1 v' (ls.length + 1) (xs ++ [x])) (hg : (w.alloc (.cells #[x] 38)).grownBy w1 v.ownBlock) : IntRows w1 base v' (ls ++ [l]) := by
  have ho' := ho.alloc (.cells #[x] 38)
  have hlen : xs.length = ls.length := by have := ho.1; omega
  refine ⟨xs ++ [x], by simpa using hn, fun i y m h1 h2 => ?_⟩
  rcases Nat.lt_trichotomy i xs.length with h | h | h
  · rw [List.getElem?_append_left h] at h1
    rw [List.getElem?_append_left (by omega)] at h2
    exact ((hi i y m h1 h2).ext (Ext.alloc _ _)).other ho' hg
  · subst h
    rw [List.getElem?_append_right (Nat.le_refl _)] at h1
    rw [List.getElem?_append_right (by omega)] at h2
    simp [hlen] at h1 h2
    subst h1; subst h2
    exact (hx.ext (Ext.alloc _ _)).other ho' hg
  · rw [List.getElem?_eq_none (by simp; omega)] at h1; cases h1

theorem Tryz.info38 : (Tryz.prog.info? 38).map (fun i => (i.zero, i.size, i.bytes)) = some (some (.slice none 0 0), 1, 24) := by kernel_rfl

theorem IntRows.mono {w : World} {b b' : Nat} {v : Value} {ls : List (List Int)} (h : IntRows w b v ls) (hb : b' ≤ b) : IntRows w b' v ls := by
  obtain ⟨xs, h1, h2⟩ := h
  exact ⟨xs, ⟨h1.1, h1.2.imp id fun ⟨g, cap, cur, q1, q2, q3⟩ => ⟨g, cap, cur, q1, Nat.le_trans hb q2, q3⟩⟩, fun i x l p q => (h2 i x l p q).mono hb⟩
theorem domO_len {l : List UInt8} {zs : List Int} {n : Int} (h : domO [] 1 31 l = some (zs, n)) (hl : l.length ≤ 1000) : zs.length ≤ 100000000 := by
  unfold domO at h
  split at h
  · split at h
    · injection h with h; injection h with h h2; subst h; simp
    · split at h
      · split at h
        · cases h
        · split at h
          · injection h with h; injection h with h h2; subst h; simp
          · cases h
      · cases h
  · split at h
    · split at h
      · injection h with h; injection h with h h2; subst h; simp
      · split at h
        · split at h
          · cases h
          · split at h
            · injection h with h; injection h with h h2; subst h; simp
            · cases h
        · simp only [Option.map_eq_some_iff] at h
          obtain ⟨y, hy, he⟩ := h
          injection he with he; subst he
          exact fieldO_len hy (by decide) (by decide) hl
    · simp only [Option.map_eq_some_iff] at h
      obtain ⟨y, hy, he⟩ := h
      injection he with he; subst he
      exact fieldO_len hy (by decide) (by decide) hl
theorem buildO_len {t : List (List UInt8)} {fs : List (List Int × Int)} (h : buildO t = some fs) (ht : ∀ x ∈ t, x.length ≤ 1000) : ∀ f ∈ fs, f.1.length ≤ 100000000 := by
  unfold buildO at h
  split at h
  · rename_i a b c d e f g
    split at h
    · cases h
    · rename_i A hA
      split at h
      · cases h
      · rename_i B hB
        split at h
        · cases h
        · rename_i C hC
          split at h
          · cases h
          · rename_i D dn hD
            split at h
            · cases h
            · rename_i E hE
              split at h
              · cases h
              · rename_i F wn hF
                split at h
                · cases h
                · rename_i G hG
                  injection h with h
                  subst h
                  intro x hx
                  simp only [List.mem_cons, List.not_mem_nil, or_false] at hx
                  rcases hx with rfl | rfl | rfl | rfl | rfl | rfl | rfl
                  · exact fieldO_len hA (by decide) (by decide) (ht _ (by simp))
                  · exact fieldO_len hB (by decide) (by decide) (ht _ (by simp))
                  · exact fieldO_len hC (by decide) (by decide) (ht _ (by simp))
                  · exact domO_len hD (ht _ (by simp))
                  · exact fieldO_len hE (by decide) (by decide) (ht _ (by simp))
                  · have := dowO_len hF (ht _ (by simp)); simpa using this
                  · exact fieldO_len hG (by decide) (by decide) (ht _ (by simp))
  · cases h
theorem special_len {l v : List UInt8} (h : specialO l = some v) : v.length ≤ 11 := by
  unfold specialO at h
  repeat' split at h
  all_goals first
    | (injection h with h; subst h; decide)
    | cases h
theorem tokens_len {l : List UInt8} (hl : l.length ≤ 900) : ∀ x ∈ withYear (tokens l), x.length ≤ 1000 := by
  have key : ∀ x ∈ tokens l, x.length ≤ 900 := by
    intro x hx
    have := splitL_item _ 32 x hx
    cases hs : specialO l with
    | none => rw [hs, Option.getD_none] at this; omega
    | some v => rw [hs, Option.getD_some] at this; have := special_len hs; omega
  intro x hx
  unfold withYear at hx
  split at hx
  · rcases List.mem_append.mp hx with h | h
    · have := key x h; omega
    · simp at h; subst h; simp
  · have := key x hx; omega
theorem fields_len {l : List UInt8} {fs : List (List Int × Int)} (h : exprO l = some fs) (hl : l.length ≤ 900) : ∀ f ∈ fs, f.1.length ≤ 100000000 := by
  have hl2 := trimL_len l
  have ht := tokens_len (l := trimL l) (by omega)
  unfold exprO parseO at h
  rcases hT : withYear (tokens (trimL l)) with _ | ⟨a, _ | ⟨b, _ | ⟨c, _ | ⟨d, _ | ⟨e, _ | ⟨f, _ | ⟨g, _ | ⟨y, t⟩⟩⟩⟩⟩⟩⟩⟩ <;> rw [hT] at h ht
  all_goals first
    | (rw [cronT_seven] at h
       split at h
       · cases h
       · exact buildO_len h ht)
    | (rw [cronT_len (by simp)] at h; cases h)

/-- what ZZFields gives of an expression's fields -/
def FieldsPost (w : World) (fs : List (List Int × Int)) (en : Ending) (w' : World) : Prop :=
  ∃ v a b, en = .returned (.tuple #[v, .int .i64 (a : Int), .int .i64 (b : Int), .nilIface]) ∧ (fs[3]?.map (·.2)) = some a ∧ (fs[5]?.map (·.2)) = some b ∧ IntRows w' w.heap.size v (fs.map (·.1)) ∧ Ext w w'

set_option maxHeartbeats 3200000 in
set_option maxRecDepth 1000000 in
theorem zz_fields (s : ByteArray) (w : World) (hs : s.size ≤ 900) (hE : Env w) :
    Calls Tryz.prog 39 #[.string s] w fun e w' => ((∃ fs, exprO (bytes s) = some fs ∧ FieldsPost w fs e w') ∨
      (exprO (bytes s) = none ∧ ∃ t p, e = .returned (.tuple #[.slice none 0 0, .int .i64 0, .int .i64 0, .iface t p]) ∧ Ext w w')) := by
  obtain ⟨i0, hi0, hz0, hz1, hz2⟩ := info_parts Tryz.info38
  obtain ⟨j0, hj0, hy0, hy1, hy2⟩ := info_parts Tryz.info3
  have hl := trimL_len (bytes s)
  rw [bytes_length] at hl
  have Hl := Lib.hid hl
  clear hl
  go_enter Tryz.func39, Tryz.ntmps39
  go_wp2_with fail
  go_at_call 62
  refine (trim_cron s _ (by omega)).mono ?_
  rintro e w1 ⟨rfl, hx1⟩
  go_wp2_with fail
  go_at_call 61
  refine (parse_cron _ _ (by rw [size_mk]; have := Hl.out; omega) (hE.ext hx1)).mono ?_
  rintro e w2 ⟨⟨fs, v, hf, rfl, hF⟩ | ⟨hf, t, p, rfl⟩, hx2⟩
  · rw [bytes_mk] at hf
    have Hf : Hid (exprO (bytes s) = some fs) := hf
    have hx02 := hx1.trans hx2
    obtain ⟨B, ps, rfl, hBb, hB, hpl, hFL⟩ := hF.mono (Below.size hx1)
    have HFL := Lib.hid hFL
    have hfl : fs.length = 7 := by rw [← hFL.1]; exact hpl
    have HB := Lib.hid hB
    have Hpl := Lib.hid hpl
    have Hfl := Lib.hid hfl
    have Hsz : Hid (∀ f ∈ fs, f.1.length ≤ 100000000) := fields_len (l := bytes s) hf (by rw [bytes_length]; omega)
    clear hf hF hFL hB hpl hfl
    go_wp2_with fail
    go_loopw [8, 10, 22] (fun v8 _ i wr => ∃ (k : Nat) (ls : List (List Int)), k ≤ 7 ∧ i = .int .i64 k ∧ ls.length = k ∧ Hid (ls = (fs.take k).map (·.1)) ∧ Hid (IntRows wr w2.heap.size v8 ls) ∧ Ext w2 wr)
      (fun _ _ i _ => 7 - (RowKit.intOf i).toNat)
    case atStart => exact ⟨0, [], Nat.zero_le _, rfl, rfl, rfl, IntRows.nil _ _, Ext.refl _⟩
    case round =>
      obtain ⟨k, ls, hk, rfl, hlk, Hls, HR, hx⟩ := hrel
      have Hlk := Lib.hid hlk
      by_cases hlt : k < 7
      · obtain ⟨p, hp⟩ : ∃ p, ps[k]? = some p := ⟨_, List.getElem?_eq_getElem (by rw [Hpl.out]; exact hlt)⟩
        obtain ⟨f, hf1⟩ : ∃ f, fs[k]? = some f := ⟨_, List.getElem?_eq_getElem (by rw [Hfl.out]; exact hlt)⟩
        have hFd := (HFL.out.2 k p f hp hf1).ext hx
        have hBr := (Below.block hx B (block_lt HB.out)).trans HB.out
        have hck : wr.cell? ⟨B, k, none⟩ = some p := row_cell hBr (by simpa using hp)
        obtain ⟨N, sl, rfl, hNb, hN, hI⟩ := hFd
        have hcn : wr.cell? ⟨N, 0, none⟩ = some sl := by simp [World.cell?, hN]
        have Hf1 := Lib.hid hf1
        obtain ⟨xs, hown, hin⟩ := HR.out
        rw [hlk] at hown
        have Hown := Lib.hid hown
        have Hin := Lib.hid hin
        have hll : f.1.length ≤ 100000000 := Hsz.out f (List.mem_iff_getElem?.mpr ⟨k, hf1⟩)
        have hIx := hI.2
        rcases hIx with ⟨hsl, h0⟩ | ⟨g, cap, cur, hsl, hgb, hg, hnc, hcm, hcs, htk⟩
        · subst hsl
          have h0' : f.1 = [] := List.length_eq_zero_iff.mp h0
          have HI5 : Hid (Ints wr w2.heap.size (.slice none 0 0) f.1) := by show World.ownsRow _ _ _ _ _ _ _; rw [h0']; exact World.ownsRow_nil _ _ _ _
          have Hown5 := Hown
          have Hin5 := Hin
          have ownr := Hown.out
          have hx5 := hx
          obtain ⟨w5, hw5⟩ : ∃ w5, w5 = wr := ⟨_, rfl⟩
          subst hw5
          clear hf1 hp hBr hN hI hown hin hll h0 h0' hlk
          go_wp2_with (first
            | (at_builtin; refine wpList_append_own _ rfl _ _ 30 rfl w2.heap.size 38 i0 (.slice none 0 0) 1 24 Tryz.underlying30 hi0 hz0 hz1 hz2 rfl (by decide) _ _ _ rfl (ownr.alloc _) ⟨w5.heap.size, 0, none⟩ 1 1 [.slice none 0 0] rfl rfl ?c1 ?c2 ?c3 ?c4 ?c5 ?_)
            | go_in)
          case c1 => exact cell_one_new _ _ _
          case c2 => intro u hu; simp at hu; subst hu; rfl
          case c3 => unfold maxLen; omega
          case c4 => omega
          case c5 => have := hx5.size; simp; omega
          intro v2 w6 hown2 hgr2 _
          have A1 : Hid (IntRows w6 w2.heap.size v2 (ls ++ [f.1])) := IntRows.snoc (by rw [Hlk.out]; exact Hown5.out) Hin5.out HI5.out (by rw [Hlk.out]; exact hown2) hgr2
          have A2 : Ext w2 w6 := Ext.own_grown hx5 ownr hgr2
          have A3 : Hid (ls ++ [f.1] = (fs.take (k + 1)).map (·.1)) := by
            show _ = _
            rw [Hls.out, take_snocL fs k f Hf1.out, List.map_append]; rfl
          clear hown2 hgr2 ownr
          go_wp2_with fail
          go_roundw
          case rel => exact ⟨k + 1, ls ++ [f.1], by omega, by go_num, by rw [List.length_append, Hlk.out]; rfl, A3, A1, A2⟩
          case measure => simp [RowKit.intOf]; omega
        · subst hsl
          have hq : f.1.length = f.1.length := rfl
          obtain ⟨q, hq⟩ : ∃ q, q = f.1.length := ⟨_, rfl⟩
          have hqb : q ≤ 100000000 := by omega
          have hnews : ∀ j u, (ints f.1)[j]? = some u → wr.cell? ((⟨g, 0, none⟩ : Addr).add j) = some u := fun j u hu => by
            have ha : (⟨g, 0, none⟩ : Addr).add j = ⟨g, j, none⟩ := by unfold Addr.add; split <;> simp_all
            have hj := (List.getElem?_eq_some_iff.mp hu).1
            rw [ints_length] at hj
            rw [ha, World.ownsRow.cellAt hI j (by omega)]; exact hu
          have hil : (ints f.1).length = q * 1 := by rw [ints_length]; omega
          have hnews2 : ∀ j u, (ints f.1)[j]? = some u → wr.cell? ⟨g, j, none⟩ = some u := fun j u hu => by
            have hj := (List.getElem?_eq_some_iff.mp hu).1
            rw [ints_length] at hj
            rw [World.ownsRow.cellAt hI j (by omega)]; exact hu
          have Hnews := Lib.hid hnews
          have Hnews2 := Lib.hid hnews2
          clear hnews2
          have Hil := Lib.hid hil
          have Hq := Lib.hid hq
          rw [← hq] at hcn
          clear hf1 hp hBr hN hI hown hin hll hlk hg hnc hcm hcs htk hnews hil hq
          go_wp2_with (first
            | (at_builtin; refine wpList_append_own _ rfl _ _ 38 rfl w2.heap.size 3 j0 (.int .i64 0) 1 8 Tryz.underlying38 hj0 hy0 hy1 hy2 rfl (by decide) (.slice none 0 0) 0 [] rfl (World.ownsRow_nil _ _ _ _) ⟨g, 0, none⟩ q cap (ints f.1) rfl Hil.out ?c1 ?c2 ?c3 ?c4 ?c5 ?_)
            | go_in)
          case c1 => first | exact Hnews.out | exact Hnews2.out
          case c2 => exact ints_one _
          case c3 => unfold maxLen; omega
          case c4 => omega
          case c5 => exact hx.size
          intro v1 w5 hown1 hgr1 _
          have hxa : Ext wr w5 := Below.grown (Below.refl _ _) hgr1 (Nat.le_refl _) (fun k h => by cases h)
          have hx5 := hx.trans hxa
          have HI5 : Hid (Ints w5 w2.heap.size v1 f.1) := by
            show World.ownsRow _ _ _ _ _ _ _
            rw [← Hq.out]; simpa using hown1
          have Hown5 := Lib.hid (own_ext hxa Hown.out)
          have Hin5 : Hid (∀ (i : Nat) (x : Value) (l : List Int), xs[i]? = some x → ls[i]? = some l → Ints w5 w2.heap.size x l) := fun i x l a b => (Hin.out i x l a b).ext hxa
          obtain ⟨ax, cx, hax⟩ := own_any HI5.out
          obtain ⟨m5, hm5⟩ : ∃ m, m = f.1.length := ⟨_, rfl⟩
          rw [← hm5] at hax
          subst hax
          have ownr := Hown5.out
          clear hown1 hgr1 hm5
          go_wp2_with (first
            | (at_builtin; refine wpList_append_own _ rfl _ _ 30 rfl w2.heap.size 38 i0 (.slice none 0 0) 1 24 Tryz.underlying30 hi0 hz0 hz1 hz2 rfl (by decide) _ _ _ rfl (ownr.alloc _) ⟨w5.heap.size, 0, none⟩ 1 1 [.slice ax m5 cx] rfl rfl ?c1 ?c2 ?c3 ?c4 ?c5 ?_)
            | go_in)
          case c1 => exact cell_one_new _ _ _
          case c2 => intro u hu; simp at hu; subst hu; rfl
          case c3 => unfold maxLen; omega
          case c4 => omega
          case c5 => have := hx5.size; simp; omega
          intro v2 w6 hown2 hgr2 _
          have A1 : Hid (IntRows w6 w2.heap.size v2 (ls ++ [f.1])) := IntRows.snoc (by rw [Hlk.out]; exact Hown5.out) Hin5.out HI5.out (by rw [Hlk.out]; exact hown2) hgr2
          have A2 : Ext w2 w6 := Ext.own_grown hx5 ownr hgr2
          have A3 : Hid (ls ++ [f.1] = (fs.take (k + 1)).map (·.1)) := by
            show _ = _
            rw [Hls.out, take_snocL fs k f Hf1.out, List.map_append]; rfl
          clear hown2 hgr2 ownr
          go_wp2_with fail
          go_roundw
          case rel => exact ⟨k + 1, ls ++ [f.1], by omega, by go_num, by rw [List.length_append, Hlk.out]; rfl, A3, A1, A2⟩
          case measure => simp [RowKit.intOf]; omega
      · have hk7 : k = 7 := by omega
        have ha : ∀ (i : Nat) (f : List Int × Int), fs[i]? = some f → ∃ N, (∃ p : Value, ps[i]? = some p ∧ p = Value.pointer (some ⟨N, 0, none⟩)) ∧ wr.cell? ⟨N, 1, none⟩ = some (.int .i64 f.2) := fun i f hf => by
          have hi := (List.getElem?_eq_some_iff.mp hf).1
          obtain ⟨p, hp⟩ : ∃ p, ps[i]? = some p := ⟨_, List.getElem?_eq_getElem (by rw [Hpl.out, ← Hfl.out]; exact hi)⟩
          obtain ⟨N, sl, rfl, hNb, hN, hI⟩ := (HFL.out.2 i p f hp hf).ext hx
          exact ⟨N, ⟨_, hp, rfl⟩, by simp [World.cell?, hN]⟩
        obtain ⟨f3, hf3⟩ : ∃ f, fs[3]? = some f := ⟨_, List.getElem?_eq_getElem (by rw [Hfl.out]; decide)⟩
        obtain ⟨f5, hf5⟩ : ∃ f, fs[5]? = some f := ⟨_, List.getElem?_eq_getElem (by rw [Hfl.out]; decide)⟩
        obtain ⟨N3, ⟨_, hp3, rfl⟩, cn3⟩ := ha 3 f3 hf3
        obtain ⟨N5, ⟨_, hp5, rfl⟩, cn5⟩ := ha 5 f5 hf5
        have hBr := (Below.block hx B (block_lt HB.out)).trans HB.out
        have cb3 : wr.cell? ⟨B, 3, none⟩ = some (.pointer (some ⟨N3, 0, none⟩)) := row_cell hBr (by simpa using hp3)
        have cb5 : wr.cell? ⟨B, 5, none⟩ = some (.pointer (some ⟨N5, 0, none⟩)) := row_cell hBr (by simpa using hp5)
        have Hf3 : Hid (fs[3]?.map (·.2) = some f3.2) := by show _ = _; rw [hf3]; rfl
        have Hf5 : Hid (fs[5]?.map (·.2) = some f5.2) := by show _ = _; rw [hf5]; rfl
        have HR2 : Hid (IntRows wr w.heap.size u8 (fs.map (·.1))) := by
          have h := HR.out.mono (Below.size hx02)
          rw [Hls.out, List.take_of_length_le (by rw [Hfl.out]; omega)] at h
          exact h
        clear ha hf3 hf5 hp3 hp5 hBr hlk
        obtain ⟨a8, c8, h8⟩ := own_any HR2.out.choose_spec.1
        obtain ⟨m8, hm8⟩ : ∃ m, m = (fs.map (·.1)).length := ⟨_, rfl⟩
        rw [← hm8] at h8
        subst h8
        clear hm8
        go_wp2_with fail
        go_region
        all_goals go_wp2_with fail
        all_goals exact bodyPost_ret (v := .tuple #[.slice a8 m8 c8, .int .i64 f3.2, .int .i64 f5.2, .nilIface]) (by simp [results, Tryz.results39, go_sem]) rfl (.inl ⟨fs, Hf.out, _, _, _, rfl, Hf3.out, Hf5.out, HR2.out.ext (Ext.drew _), (hx02.trans hx).trans (Ext.drew _)⟩)
  · rw [bytes_mk] at hf
    have Hf : Hid (exprO (bytes s) = none) := hf
    clear hf
    go_wp2_with fail
    exact bodyPost_ret (v := .tuple #[.slice none 0 0, .int .i64 0, .int .i64 0, .iface t p]) (by simp [results, Tryz.results39, go_sem]) rfl (.inr ⟨Hf.out, t, p, rfl, hx1.trans hx2⟩)
end Go.Proofs.YtmaffdhcmdhjfaaGreatDoor
