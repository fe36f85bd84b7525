/- special, parseCronExpression, ValidateCronExpression and what calls them. (Printed by gencron.py.) -/
import Derived.Test.YtmaffdhcmdhjfaaGreatDoorTrim
namespace Go.Proofs.YtmaffdhcmdhjfaaGreatDoor
open Go.RowKit Go.Lib

def specialO (l : List UInt8) : Option (List UInt8) :=
  if l = [64, 121, 101, 97, 114, 108, 121] then some [48, 32, 48, 32, 48, 32, 49, 32, 49, 32, 42]
  else if l = [64, 109, 111, 110, 116, 104, 108, 121] then some [48, 32, 48, 32, 48, 32, 49, 32, 42, 32, 42]
  else if l = [64, 119, 101, 101, 107, 108, 121] then some [48, 32, 48, 32, 48, 32, 42, 32, 42, 32, 49]
  else if l = [64, 100, 97, 105, 108, 121] then some [48, 32, 48, 32, 48, 32, 42, 32, 42, 32, 42]
  else if l = [64, 104, 111, 117, 114, 108, 121] then some [48, 32, 48, 32, 42, 32, 42, 32, 42, 32, 42]
  else none

set_option maxHeartbeats 800000 in
theorem special_any (s : ByteArray) (w : World) :
    Calls Tryz.prog 75 #[.string s] w fun e w' => ((∃ v, v.length ≤ 11 ∧ specialO (bytes s) = some v ∧ e = .returned (.tuple #[.string (mk v), .bool true])) ∨
      (specialO (bytes s) = none ∧ e = .returned (.tuple #[.string (mk []), .bool false]))) ∧ w = w' := by
  by_cases h0 : bytes s = [64, 121, 101, 97, 114, 108, 121]
  · have hr : specialO (bytes s) = some [48, 32, 48, 32, 48, 32, 49, 32, 49, 32, 42] := by unfold specialO; rw [if_pos h0]
    have Hr := Lib.hid hr
    have e0 := str_yes h0
    clear hr h0
    go_enter Tryz.func75, Tryz.ntmps75
    go_wp2_with fail
    go_ret2
    exact ⟨.inl ⟨_, by decide, Hr.out, rfl⟩, rfl⟩
  · skip
    by_cases h1 : bytes s = [64, 109, 111, 110, 116, 104, 108, 121]
    · have hr : specialO (bytes s) = some [48, 32, 48, 32, 48, 32, 49, 32, 42, 32, 42] := by unfold specialO; rw [if_neg h0, if_pos h1]
      have Hr := Lib.hid hr
      have e0 := str_no h0
      have e1 := str_yes h1
      clear hr h0 h1
      go_enter Tryz.func75, Tryz.ntmps75
      go_wp2_with fail
      go_ret2
      exact ⟨.inl ⟨_, by decide, Hr.out, rfl⟩, rfl⟩
    · skip
      by_cases h2 : bytes s = [64, 119, 101, 101, 107, 108, 121]
      · have hr : specialO (bytes s) = some [48, 32, 48, 32, 48, 32, 42, 32, 42, 32, 49] := by unfold specialO; rw [if_neg h0, if_neg h1, if_pos h2]
        have Hr := Lib.hid hr
        have e0 := str_no h0
        have e1 := str_no h1
        have e2 := str_yes h2
        clear hr h0 h1 h2
        go_enter Tryz.func75, Tryz.ntmps75
        go_wp2_with fail
        go_ret2
        exact ⟨.inl ⟨_, by decide, Hr.out, rfl⟩, rfl⟩
      · skip
        by_cases h3 : bytes s = [64, 100, 97, 105, 108, 121]
        · have hr : specialO (bytes s) = some [48, 32, 48, 32, 48, 32, 42, 32, 42, 32, 42] := by unfold specialO; rw [if_neg h0, if_neg h1, if_neg h2, if_pos h3]
          have Hr := Lib.hid hr
          have e0 := str_no h0
          have e1 := str_no h1
          have e2 := str_no h2
          have e3 := str_yes h3
          clear hr h0 h1 h2 h3
          go_enter Tryz.func75, Tryz.ntmps75
          go_wp2_with fail
          go_ret2
          exact ⟨.inl ⟨_, by decide, Hr.out, rfl⟩, rfl⟩
        · skip
          by_cases h4 : bytes s = [64, 104, 111, 117, 114, 108, 121]
          · have hr : specialO (bytes s) = some [48, 32, 48, 32, 42, 32, 42, 32, 42, 32, 42] := by unfold specialO; rw [if_neg h0, if_neg h1, if_neg h2, if_neg h3, if_pos h4]
            have Hr := Lib.hid hr
            have e0 := str_no h0
            have e1 := str_no h1
            have e2 := str_no h2
            have e3 := str_no h3
            have e4 := str_yes h4
            clear hr h0 h1 h2 h3 h4
            go_enter Tryz.func75, Tryz.ntmps75
            go_wp2_with fail
            go_ret2
            exact ⟨.inl ⟨_, by decide, Hr.out, rfl⟩, rfl⟩
          · skip
            have hr : specialO (bytes s) = none := by unfold specialO; rw [if_neg h0, if_neg h1, if_neg h2, if_neg h3, if_neg h4]
            have Hr := Lib.hid hr
            have e0 := str_no h0
            have e1 := str_no h1
            have e2 := str_no h2
            have e3 := str_no h3
            have e4 := str_no h4
            clear hr h0 h1 h2 h3 h4
            go_enter Tryz.func75, Tryz.ntmps75
            go_wp2_with fail
            go_ret2
            exact ⟨.inr ⟨Hr.out, rfl⟩, rfl⟩

def toldB (l : List UInt8) : Bool := (l != [63]) && (l != [42])
def tokens (l : List UInt8) : List (List UInt8) := splitL ((specialO l).getD l) 32
def withYear (t : List (List UInt8)) : List (List UInt8) := if t.length = 6 then t ++ [[42]] else t
def cronT : List (List UInt8) → Option (List (List Int × Int))
  | [a, b, c, d, e, f, g] => if toldB d && toldB f then none else buildO [a, b, c, d, e, f, g]
  | _ => none
def parseO (l : List UInt8) : Option (List (List Int × Int)) := cronT (withYear (tokens l))

theorem cronT_seven (a b c d e f g : List UInt8) : cronT [a, b, c, d, e, f, g] = if toldB d && toldB f then none else buildO [a, b, c, d, e, f, g] := rfl
theorem cronT_len {t : List (List UInt8)} (h : t.length ≠ 7) : cronT t = none := by
  unfold cronT
  split
  · simp at h
  · rfl
theorem seven {α : Type} {t : List α} (h : t.length = 7) : ∃ a b c d e f g, t = [a, b, c, d, e, f, g] := by
  rcases t with _ | ⟨a, _ | ⟨b, _ | ⟨c, _ | ⟨d, _ | ⟨e, _ | ⟨f, _ | ⟨g, _ | ⟨x, t⟩⟩⟩⟩⟩⟩⟩⟩ <;> simp at h
  exact ⟨a, b, c, d, e, f, g, rfl⟩

/-- the walk from the tokens on -/
def CronPost (w : World) (r : Option (List (List Int × Int))) (en : Ending) (w' : World) : Prop :=
  ((∃ fs v, r = some fs ∧ en = .returned (.tuple #[v, .nilIface]) ∧ Fields w' w.heap.size v fs) ∨
      (r = none ∧ ∃ t p, en = .returned (.tuple #[.slice none 0 0, .iface t p]))) ∧ Ext w w'

theorem Fields.mono {w : World} {b b' : Nat} {v : Value} {fs : List (List Int × Int)} (h : Fields w b v fs) (hb : b' ≤ b) : Fields w b' v fs := by
  obtain ⟨B, ps, h1, h2, h3, h4, h5, h6⟩ := h
  exact ⟨B, ps, h1, Nat.le_trans hb h2, h3, h4, h5, fun i p f a b => (h6 i p f a b).mono hb⟩

set_option maxHeartbeats 3200000 in
set_option maxRecDepth 1000000 in
theorem parse_cron (s : ByteArray) (w : World) (hs : s.size ≤ 900) (hE : Env w) :
    Calls Tryz.prog 61 #[.string s] w fun en w' => CronPost w (parseO (bytes s)) en w' := by
  obtain ⟨i0, hi0, hz0, hz1, hz2⟩ := info_parts Tryz.info9
  have hP : parseO (bytes s) = cronT (withYear (splitL ((specialO (bytes s)).getD (bytes s)) 32)) := rfl
  have HP := Lib.hid hP
  clear hP
  go_enter Tryz.func61, Tryz.ntmps61
  go_wp2_with fail
  go_at_call 75
  refine (special_any s _).mono ?_
  rintro en w0 ⟨⟨v, hvl, hsp, rfl⟩ | ⟨hsp, rfl⟩, rfl⟩
  · rw [hsp, Option.getD_some] at HP
    clear hsp
    go_wp2_with fail
    go_at_call 76
    refine (zz_split (mk v) 32 _ (by first | (rw [size_mk]; omega) | omega)).mono ?_
    rintro en w1 ⟨tv, rfl, hst, hx1⟩
    have hst' : Strs w1 w.heap.size tv (splitL v 32) := hst
    obtain ⟨T, hT⟩ : ∃ T, T = splitL v 32 := ⟨_, rfl⟩
    rw [← hT] at hst' HP
    have hTi : ∀ x ∈ T, x.length ≤ 900 := fun x hx => by
      have := splitL_item v 32 x (by rw [← hT]; exact hx)
      omega
    have hTp : 0 < T.length := by rw [hT]; exact splitL_pos _ _
    obtain ⟨g, cap, rfl, hgb, hgl, hcell⟩ := hst'.form hTp
    have hE1 := hE.ext hx1
    obtain ⟨n, hn⟩ : ∃ n, n = T.length := ⟨_, rfl⟩
    have hnb : n ≤ 901 := by
      have := splitL_len v 32
      rw [← hT] at this
      omega
    rw [← hn]
    have HTi := Lib.hid hTi
    have Hn := Lib.hid hn
    have Hst := Lib.hid hst'
    have Hcell := Lib.hid hcell
    clear hst hst' hT hTi hTp hn hcell
    by_cases hlo : n < 6
    · have Hr : Hid (parseO (bytes s) = none) := by
        show _ = _
        rw [HP.out, withYear, if_neg (by rw [← Hn.out]; omega)]
        exact cronT_len (by rw [← Hn.out]; omega)
      go_wp2_with fail
      go_at_call 77
      refine (new_err _ _ hE1).mono ?_
      rintro en w2 ⟨t, p, rfl, hx2⟩
      go_wp2_with fail
      go_ret2
      exact ⟨.inr ⟨Hr.out, t, p, rfl⟩, hx1.trans hx2⟩
    · by_cases hhi : 7 < n
      · have Hr : Hid (parseO (bytes s) = none) := by
          show _ = _
          rw [HP.out, withYear, if_neg (by rw [← Hn.out]; omega)]
          exact cronT_len (by rw [← Hn.out]; omega)
        go_wp2_with fail
        go_at_call 77
        refine (new_err _ _ hE1).mono ?_
        rintro en w2 ⟨t, p, rfl, hx2⟩
        go_wp2_with fail
        go_ret2
        exact ⟨.inr ⟨Hr.out, t, p, rfl⟩, hx1.trans hx2⟩
      · by_cases h6 : n = 6
        · subst h6
          have own := Hst.out
          unfold Strs at own
          rw [← Hn.out] at own
          go_wp2_with (first
            | (at_builtin; refine wpList_append_own _ rfl _ _ 85 rfl w.heap.size 9 i0 (.string ⟨#[]⟩) 1 16 Tryz.underlying85 hi0 hz0 hz1 hz2 rfl (by decide) _ _ _ rfl (own.alloc _) ⟨w1.heap.size, 0, none⟩ 1 1 [.string (mk [42])] rfl rfl ?c1 ?c2 ?c3 ?c4 ?c5 ?_)
            | go_in)
          case c1 => exact cell_one_new _ _ _
          case c2 => intro u hu; simp at hu; subst hu; rfl
          case c3 => unfold maxLen; omega
          case c4 => omega
          case c5 => have := hx1.size; simp; omega
          intro v' w2 hown' hgrow _
          have hx2 : Ext w w2 := Ext.own_grown hx1 own hgrow
          have hst2 : Strs w2 w.heap.size v' (T ++ [[42]]) := by
            show World.ownsRow _ _ _ _ _ _ _
            rw [strs_snoc, List.length_append, ← Hn.out]; exact hown'
          have hlen7 : (T ++ [[42]]).length = 7 := by rw [List.length_append, ← Hn.out]; rfl
          obtain ⟨a, b, c, d, e, f, y, hT7⟩ := seven hlen7
          have hHP : parseO (bytes s) = cronT (T ++ [[42]]) := by rw [HP.out, withYear, if_pos Hn.out.symm]
          have hmem : ∀ x ∈ T ++ [[42]], x.length ≤ 900 := fun x hx => by
            rcases List.mem_append.mp hx with h | h
            · exact HTi.out x h
            · simp at h; subst h; simp
          rw [hT7] at hst2 hHP hmem
          clear hT7 hlen7 hown' hgrow own Hst Hcell HTi Hn HP
          obtain ⟨g2, cap2, hv2, hg2b, hg2l, hc2⟩ := hst2.form (by simp)
          have c0 := hc2 0 a rfl
          have c1 := hc2 1 b rfl
          have c2 := hc2 2 c rfl
          have c3 := hc2 3 d rfl
          have c4 := hc2 4 e rfl
          have c5 := hc2 5 f rfl
          have c6 := hc2 6 y rfl
          have hbd : a.length ≤ 1000 ∧ b.length ≤ 1000 ∧ c.length ≤ 1000 ∧ d.length ≤ 1000 ∧ e.length ≤ 1000 ∧ f.length ≤ 1000 ∧ y.length ≤ 1000 := by
            have q := fun x hx => Nat.le_trans (hmem x hx) (show 900 ≤ 1000 by decide)
            exact ⟨q a (by simp), q b (by simp), q c (by simp), q d (by simp), q e (by simp), q f (by simp), q y (by simp)⟩
          subst hv2
          have Hbd := Lib.hid hbd
          have HHP := Lib.hid hHP
          have hb := build_any a b c d e f y g2 cap2 _ hbd (hE.ext hx2) c0 c1 c2 c3 c4 c5 c6
          have Hb := Lib.hid hb
          simp only [List.length_cons, List.length_nil] at *
          clear hb hbd hHP hmem hst2 hc2 c0 c1 c2 c4 c6
          by_cases kd : d = [63]
          · skip
            have qd := str_yes (s := mk d) (l := [63]) kd
            have Hr : Hid (parseO (bytes s) = buildO [a, b, c, d, e, f, y]) := by
              show _ = _
              rw [HHP.out]; rw [cronT_seven, show toldB d = false by rw [kd]; decide]; rfl
            clear kd
            go_wp2_with fail
            go_at_call 78
            refine Hb.out.mono ?_
            rintro en w3 ⟨⟨fs, v, hf, rfl, hF⟩ | ⟨hf, t, p, rfl⟩, hx3⟩
            · have Hf := Lib.hid (Hr.out.trans hf)
              have HF := Lib.hid (hF.mono (Below.size hx2))
              clear hf hF
              go_wp2_with fail
              go_ret2
              exact ⟨.inl ⟨fs, v, Hf.out, rfl, HF.out⟩, hx2.trans hx3⟩
            · have Hf := Lib.hid (Hr.out.trans hf)
              clear hf
              go_wp2_with fail
              go_ret2
              exact ⟨.inr ⟨Hf.out, t, p, rfl⟩, hx2.trans hx3⟩
          · have jd := kd
            clear kd
            by_cases kd : d = [42]
            · skip
              have qd := str_no (s := mk d) (l := [63]) jd
              have rd := str_yes (s := mk d) (l := [42]) kd
              have Hr : Hid (parseO (bytes s) = buildO [a, b, c, d, e, f, y]) := by
                show _ = _
                rw [HHP.out]; rw [cronT_seven, show toldB d = false by rw [kd]; decide]; rfl
              clear kd jd
              go_wp2_with fail
              go_at_call 78
              refine Hb.out.mono ?_
              rintro en w3 ⟨⟨fs, v, hf, rfl, hF⟩ | ⟨hf, t, p, rfl⟩, hx3⟩
              · have Hf := Lib.hid (Hr.out.trans hf)
                have HF := Lib.hid (hF.mono (Below.size hx2))
                clear hf hF
                go_wp2_with fail
                go_ret2
                exact ⟨.inl ⟨fs, v, Hf.out, rfl, HF.out⟩, hx2.trans hx3⟩
              · have Hf := Lib.hid (Hr.out.trans hf)
                clear hf
                go_wp2_with fail
                go_ret2
                exact ⟨.inr ⟨Hf.out, t, p, rfl⟩, hx2.trans hx3⟩
            · skip
              have qd := str_no (s := mk d) (l := [63]) jd
              have rd := str_no (s := mk d) (l := [42]) kd
              have htd : toldB d = true := by unfold toldB; simp [jd, kd]
              have Htd := Lib.hid htd
              clear htd jd kd
              by_cases kf : f = [63]
              · skip
                have qf := str_yes (s := mk f) (l := [63]) kf
                have Hr : Hid (parseO (bytes s) = buildO [a, b, c, d, e, f, y]) := by
                  show _ = _
                  rw [HHP.out]; rw [cronT_seven, Htd.out, show toldB f = false by rw [kf]; decide]; rfl
                clear kf
                go_wp2_with fail
                go_at_call 78
                refine Hb.out.mono ?_
                rintro en w3 ⟨⟨fs, v, hf, rfl, hF⟩ | ⟨hf, t, p, rfl⟩, hx3⟩
                · have Hf := Lib.hid (Hr.out.trans hf)
                  have HF := Lib.hid (hF.mono (Below.size hx2))
                  clear hf hF
                  go_wp2_with fail
                  go_ret2
                  exact ⟨.inl ⟨fs, v, Hf.out, rfl, HF.out⟩, hx2.trans hx3⟩
                · have Hf := Lib.hid (Hr.out.trans hf)
                  clear hf
                  go_wp2_with fail
                  go_ret2
                  exact ⟨.inr ⟨Hf.out, t, p, rfl⟩, hx2.trans hx3⟩
              · have jf := kf
                clear kf
                by_cases kf : f = [42]
                · skip
                  have qf := str_no (s := mk f) (l := [63]) jf
                  have rf := str_yes (s := mk f) (l := [42]) kf
                  have Hr : Hid (parseO (bytes s) = buildO [a, b, c, d, e, f, y]) := by
                    show _ = _
                    rw [HHP.out]; rw [cronT_seven, Htd.out, show toldB f = false by rw [kf]; decide]; rfl
                  clear kf jf
                  go_wp2_with fail
                  go_at_call 78
                  refine Hb.out.mono ?_
                  rintro en w3 ⟨⟨fs, v, hf, rfl, hF⟩ | ⟨hf, t, p, rfl⟩, hx3⟩
                  · have Hf := Lib.hid (Hr.out.trans hf)
                    have HF := Lib.hid (hF.mono (Below.size hx2))
                    clear hf hF
                    go_wp2_with fail
                    go_ret2
                    exact ⟨.inl ⟨fs, v, Hf.out, rfl, HF.out⟩, hx2.trans hx3⟩
                  · have Hf := Lib.hid (Hr.out.trans hf)
                    clear hf
                    go_wp2_with fail
                    go_ret2
                    exact ⟨.inr ⟨Hf.out, t, p, rfl⟩, hx2.trans hx3⟩
                · skip
                  have qf := str_no (s := mk f) (l := [63]) jf
                  have rf := str_no (s := mk f) (l := [42]) kf
                  have Hr : Hid (parseO (bytes s) = none) := by
                    show _ = _
                    have htf : toldB f = true := by unfold toldB; simp [jf, kf]
                    rw [HHP.out]; rw [cronT_seven, Htd.out, htf]; rfl
                  clear jf kf
                  go_wp2_with fail
                  go_at_call 77
                  refine (new_err _ _ (hE.ext hx2)).mono ?_
                  rintro en w3 ⟨t, p, rfl, hx3⟩
                  go_wp2_with fail
                  go_ret2
                  exact ⟨.inr ⟨Hr.out, t, p, rfl⟩, hx2.trans hx3⟩
        · have h7 : n = 7 := by omega
          subst h7
          obtain ⟨a, b, c, d, e, f, y, hT7⟩ := seven Hn.out.symm
          have hHP : parseO (bytes s) = cronT T := by rw [HP.out, withYear, if_neg (by rw [← Hn.out]; decide)]
          have hmem := HTi.out
          have hst2 : Strs w1 w.heap.size (.slice (some ⟨g, 0, none⟩) 7 cap) T := by have := Hst.out; rwa [← Hn.out] at this
          have hx2 := hx1
          rw [hT7] at hst2 hHP hmem
          clear hT7 Hst Hcell HTi Hn HP
          obtain ⟨g2, cap2, hv2, hg2b, hg2l, hc2⟩ := hst2.form (by simp)
          have c0 := hc2 0 a rfl
          have c1 := hc2 1 b rfl
          have c2 := hc2 2 c rfl
          have c3 := hc2 3 d rfl
          have c4 := hc2 4 e rfl
          have c5 := hc2 5 f rfl
          have c6 := hc2 6 y rfl
          have hbd : a.length ≤ 1000 ∧ b.length ≤ 1000 ∧ c.length ≤ 1000 ∧ d.length ≤ 1000 ∧ e.length ≤ 1000 ∧ f.length ≤ 1000 ∧ y.length ≤ 1000 := by
            have q := fun x hx => Nat.le_trans (hmem x hx) (show 900 ≤ 1000 by decide)
            exact ⟨q a (by simp), q b (by simp), q c (by simp), q d (by simp), q e (by simp), q f (by simp), q y (by simp)⟩
          obtain ⟨rfl, rfl⟩ : g2 = g ∧ cap2 = cap := by injection hv2 with hv2 _ hv3; injection hv2 with hv2; injection hv2 with hv2; exact ⟨hv2.symm, hv3.symm⟩
          have Hbd := Lib.hid hbd
          have HHP := Lib.hid hHP
          have hb := build_any a b c d e f y g2 cap2 _ hbd (hE.ext hx2) c0 c1 c2 c3 c4 c5 c6
          have Hb := Lib.hid hb
          simp only [List.length_cons, List.length_nil] at *
          clear hb hbd hHP hmem hst2 hc2 c0 c1 c2 c4 c6
          by_cases kd : d = [63]
          · skip
            have qd := str_yes (s := mk d) (l := [63]) kd
            have Hr : Hid (parseO (bytes s) = buildO [a, b, c, d, e, f, y]) := by
              show _ = _
              rw [HHP.out]; rw [cronT_seven, show toldB d = false by rw [kd]; decide]; rfl
            clear kd
            go_wp2_with fail
            go_at_call 78
            refine Hb.out.mono ?_
            rintro en w3 ⟨⟨fs, v, hf, rfl, hF⟩ | ⟨hf, t, p, rfl⟩, hx3⟩
            · have Hf := Lib.hid (Hr.out.trans hf)
              have HF := Lib.hid (hF.mono (Below.size hx2))
              clear hf hF
              go_wp2_with fail
              go_ret2
              exact ⟨.inl ⟨fs, v, Hf.out, rfl, HF.out⟩, hx2.trans hx3⟩
            · have Hf := Lib.hid (Hr.out.trans hf)
              clear hf
              go_wp2_with fail
              go_ret2
              exact ⟨.inr ⟨Hf.out, t, p, rfl⟩, hx2.trans hx3⟩
          · have jd := kd
            clear kd
            by_cases kd : d = [42]
            · skip
              have qd := str_no (s := mk d) (l := [63]) jd
              have rd := str_yes (s := mk d) (l := [42]) kd
              have Hr : Hid (parseO (bytes s) = buildO [a, b, c, d, e, f, y]) := by
                show _ = _
                rw [HHP.out]; rw [cronT_seven, show toldB d = false by rw [kd]; decide]; rfl
              clear kd jd
              go_wp2_with fail
              go_at_call 78
              refine Hb.out.mono ?_
              rintro en w3 ⟨⟨fs, v, hf, rfl, hF⟩ | ⟨hf, t, p, rfl⟩, hx3⟩
              · have Hf := Lib.hid (Hr.out.trans hf)
                have HF := Lib.hid (hF.mono (Below.size hx2))
                clear hf hF
                go_wp2_with fail
                go_ret2
                exact ⟨.inl ⟨fs, v, Hf.out, rfl, HF.out⟩, hx2.trans hx3⟩
              · have Hf := Lib.hid (Hr.out.trans hf)
                clear hf
                go_wp2_with fail
                go_ret2
                exact ⟨.inr ⟨Hf.out, t, p, rfl⟩, hx2.trans hx3⟩
            · skip
              have qd := str_no (s := mk d) (l := [63]) jd
              have rd := str_no (s := mk d) (l := [42]) kd
              have htd : toldB d = true := by unfold toldB; simp [jd, kd]
              have Htd := Lib.hid htd
              clear htd jd kd
              by_cases kf : f = [63]
              · skip
                have qf := str_yes (s := mk f) (l := [63]) kf
                have Hr : Hid (parseO (bytes s) = buildO [a, b, c, d, e, f, y]) := by
                  show _ = _
                  rw [HHP.out]; rw [cronT_seven, Htd.out, show toldB f = false by rw [kf]; decide]; rfl
                clear kf
                go_wp2_with fail
                go_at_call 78
                refine Hb.out.mono ?_
                rintro en w3 ⟨⟨fs, v, hf, rfl, hF⟩ | ⟨hf, t, p, rfl⟩, hx3⟩
                · have Hf := Lib.hid (Hr.out.trans hf)
                  have HF := Lib.hid (hF.mono (Below.size hx2))
                  clear hf hF
                  go_wp2_with fail
                  go_ret2
                  exact ⟨.inl ⟨fs, v, Hf.out, rfl, HF.out⟩, hx2.trans hx3⟩
                · have Hf := Lib.hid (Hr.out.trans hf)
                  clear hf
                  go_wp2_with fail
                  go_ret2
                  exact ⟨.inr ⟨Hf.out, t, p, rfl⟩, hx2.trans hx3⟩
              · have jf := kf
                clear kf
                by_cases kf : f = [42]
                · skip
                  have qf := str_no (s := mk f) (l := [63]) jf
                  have rf := str_yes (s := mk f) (l := [42]) kf
                  have Hr : Hid (parseO (bytes s) = buildO [a, b, c, d, e, f, y]) := by
                    show _ = _
                    rw [HHP.out]; rw [cronT_seven, Htd.out, show toldB f = false by rw [kf]; decide]; rfl
                  clear kf jf
                  go_wp2_with fail
                  go_at_call 78
                  refine Hb.out.mono ?_
                  rintro en w3 ⟨⟨fs, v, hf, rfl, hF⟩ | ⟨hf, t, p, rfl⟩, hx3⟩
                  · have Hf := Lib.hid (Hr.out.trans hf)
                    have HF := Lib.hid (hF.mono (Below.size hx2))
                    clear hf hF
                    go_wp2_with fail
                    go_ret2
                    exact ⟨.inl ⟨fs, v, Hf.out, rfl, HF.out⟩, hx2.trans hx3⟩
                  · have Hf := Lib.hid (Hr.out.trans hf)
                    clear hf
                    go_wp2_with fail
                    go_ret2
                    exact ⟨.inr ⟨Hf.out, t, p, rfl⟩, hx2.trans hx3⟩
                · skip
                  have qf := str_no (s := mk f) (l := [63]) jf
                  have rf := str_no (s := mk f) (l := [42]) kf
                  have Hr : Hid (parseO (bytes s) = none) := by
                    show _ = _
                    have htf : toldB f = true := by unfold toldB; simp [jf, kf]
                    rw [HHP.out]; rw [cronT_seven, Htd.out, htf]; rfl
                  clear jf kf
                  go_wp2_with fail
                  go_at_call 77
                  refine (new_err _ _ (hE.ext hx2)).mono ?_
                  rintro en w3 ⟨t, p, rfl, hx3⟩
                  go_wp2_with fail
                  go_ret2
                  exact ⟨.inr ⟨Hr.out, t, p, rfl⟩, hx2.trans hx3⟩
  · rw [hsp, Option.getD_none] at HP
    clear hsp
    go_wp2_with fail
    go_at_call 76
    refine (zz_split s 32 _ (by first | (rw [size_mk]; omega) | omega)).mono ?_
    rintro en w1 ⟨tv, rfl, hst, hx1⟩
    have hst' : Strs w1 w.heap.size tv (splitL (bytes s) 32) := hst
    obtain ⟨T, hT⟩ : ∃ T, T = splitL (bytes s) 32 := ⟨_, rfl⟩
    rw [← hT] at hst' HP
    have hTi : ∀ x ∈ T, x.length ≤ 900 := fun x hx => by
      have := splitL_item (bytes s) 32 x (by rw [← hT]; exact hx)
      rw [bytes_length] at this; omega
    have hTp : 0 < T.length := by rw [hT]; exact splitL_pos _ _
    obtain ⟨g, cap, rfl, hgb, hgl, hcell⟩ := hst'.form hTp
    have hE1 := hE.ext hx1
    obtain ⟨n, hn⟩ : ∃ n, n = T.length := ⟨_, rfl⟩
    have hnb : n ≤ 901 := by
      have := splitL_len (bytes s) 32
      rw [← hT] at this
      rw [bytes_length] at this; omega
    rw [← hn]
    have HTi := Lib.hid hTi
    have Hn := Lib.hid hn
    have Hst := Lib.hid hst'
    have Hcell := Lib.hid hcell
    clear hst hst' hT hTi hTp hn hcell
    by_cases hlo : n < 6
    · have Hr : Hid (parseO (bytes s) = none) := by
        show _ = _
        rw [HP.out, withYear, if_neg (by rw [← Hn.out]; omega)]
        exact cronT_len (by rw [← Hn.out]; omega)
      go_wp2_with fail
      go_at_call 77
      refine (new_err _ _ hE1).mono ?_
      rintro en w2 ⟨t, p, rfl, hx2⟩
      go_wp2_with fail
      go_ret2
      exact ⟨.inr ⟨Hr.out, t, p, rfl⟩, hx1.trans hx2⟩
    · by_cases hhi : 7 < n
      · have Hr : Hid (parseO (bytes s) = none) := by
          show _ = _
          rw [HP.out, withYear, if_neg (by rw [← Hn.out]; omega)]
          exact cronT_len (by rw [← Hn.out]; omega)
        go_wp2_with fail
        go_at_call 77
        refine (new_err _ _ hE1).mono ?_
        rintro en w2 ⟨t, p, rfl, hx2⟩
        go_wp2_with fail
        go_ret2
        exact ⟨.inr ⟨Hr.out, t, p, rfl⟩, hx1.trans hx2⟩
      · by_cases h6 : n = 6
        · subst h6
          have own := Hst.out
          unfold Strs at own
          rw [← Hn.out] at own
          go_wp2_with (first
            | (at_builtin; refine wpList_append_own _ rfl _ _ 85 rfl w.heap.size 9 i0 (.string ⟨#[]⟩) 1 16 Tryz.underlying85 hi0 hz0 hz1 hz2 rfl (by decide) _ _ _ rfl (own.alloc _) ⟨w1.heap.size, 0, none⟩ 1 1 [.string (mk [42])] rfl rfl ?c1 ?c2 ?c3 ?c4 ?c5 ?_)
            | go_in)
          case c1 => exact cell_one_new _ _ _
          case c2 => intro u hu; simp at hu; subst hu; rfl
          case c3 => unfold maxLen; omega
          case c4 => omega
          case c5 => have := hx1.size; simp; omega
          intro v' w2 hown' hgrow _
          have hx2 : Ext w w2 := Ext.own_grown hx1 own hgrow
          have hst2 : Strs w2 w.heap.size v' (T ++ [[42]]) := by
            show World.ownsRow _ _ _ _ _ _ _
            rw [strs_snoc, List.length_append, ← Hn.out]; exact hown'
          have hlen7 : (T ++ [[42]]).length = 7 := by rw [List.length_append, ← Hn.out]; rfl
          obtain ⟨a, b, c, d, e, f, y, hT7⟩ := seven hlen7
          have hHP : parseO (bytes s) = cronT (T ++ [[42]]) := by rw [HP.out, withYear, if_pos Hn.out.symm]
          have hmem : ∀ x ∈ T ++ [[42]], x.length ≤ 900 := fun x hx => by
            rcases List.mem_append.mp hx with h | h
            · exact HTi.out x h
            · simp at h; subst h; simp
          rw [hT7] at hst2 hHP hmem
          clear hT7 hlen7 hown' hgrow own Hst Hcell HTi Hn HP
          obtain ⟨g2, cap2, hv2, hg2b, hg2l, hc2⟩ := hst2.form (by simp)
          have c0 := hc2 0 a rfl
          have c1 := hc2 1 b rfl
          have c2 := hc2 2 c rfl
          have c3 := hc2 3 d rfl
          have c4 := hc2 4 e rfl
          have c5 := hc2 5 f rfl
          have c6 := hc2 6 y rfl
          have hbd : a.length ≤ 1000 ∧ b.length ≤ 1000 ∧ c.length ≤ 1000 ∧ d.length ≤ 1000 ∧ e.length ≤ 1000 ∧ f.length ≤ 1000 ∧ y.length ≤ 1000 := by
            have q := fun x hx => Nat.le_trans (hmem x hx) (show 900 ≤ 1000 by decide)
            exact ⟨q a (by simp), q b (by simp), q c (by simp), q d (by simp), q e (by simp), q f (by simp), q y (by simp)⟩
          subst hv2
          have Hbd := Lib.hid hbd
          have HHP := Lib.hid hHP
          have hb := build_any a b c d e f y g2 cap2 _ hbd (hE.ext hx2) c0 c1 c2 c3 c4 c5 c6
          have Hb := Lib.hid hb
          simp only [List.length_cons, List.length_nil] at *
          clear hb hbd hHP hmem hst2 hc2 c0 c1 c2 c4 c6
          by_cases kd : d = [63]
          · skip
            have qd := str_yes (s := mk d) (l := [63]) kd
            have Hr : Hid (parseO (bytes s) = buildO [a, b, c, d, e, f, y]) := by
              show _ = _
              rw [HHP.out]; rw [cronT_seven, show toldB d = false by rw [kd]; decide]; rfl
            clear kd
            go_wp2_with fail
            go_at_call 78
            refine Hb.out.mono ?_
            rintro en w3 ⟨⟨fs, v, hf, rfl, hF⟩ | ⟨hf, t, p, rfl⟩, hx3⟩
            · have Hf := Lib.hid (Hr.out.trans hf)
              have HF := Lib.hid (hF.mono (Below.size hx2))
              clear hf hF
              go_wp2_with fail
              go_ret2
              exact ⟨.inl ⟨fs, v, Hf.out, rfl, HF.out⟩, hx2.trans hx3⟩
            · have Hf := Lib.hid (Hr.out.trans hf)
              clear hf
              go_wp2_with fail
              go_ret2
              exact ⟨.inr ⟨Hf.out, t, p, rfl⟩, hx2.trans hx3⟩
          · have jd := kd
            clear kd
            by_cases kd : d = [42]
            · skip
              have qd := str_no (s := mk d) (l := [63]) jd
              have rd := str_yes (s := mk d) (l := [42]) kd
              have Hr : Hid (parseO (bytes s) = buildO [a, b, c, d, e, f, y]) := by
                show _ = _
                rw [HHP.out]; rw [cronT_seven, show toldB d = false by rw [kd]; decide]; rfl
              clear kd jd
              go_wp2_with fail
              go_at_call 78
              refine Hb.out.mono ?_
              rintro en w3 ⟨⟨fs, v, hf, rfl, hF⟩ | ⟨hf, t, p, rfl⟩, hx3⟩
              · have Hf := Lib.hid (Hr.out.trans hf)
                have HF := Lib.hid (hF.mono (Below.size hx2))
                clear hf hF
                go_wp2_with fail
                go_ret2
                exact ⟨.inl ⟨fs, v, Hf.out, rfl, HF.out⟩, hx2.trans hx3⟩
              · have Hf := Lib.hid (Hr.out.trans hf)
                clear hf
                go_wp2_with fail
                go_ret2
                exact ⟨.inr ⟨Hf.out, t, p, rfl⟩, hx2.trans hx3⟩
            · skip
              have qd := str_no (s := mk d) (l := [63]) jd
              have rd := str_no (s := mk d) (l := [42]) kd
              have htd : toldB d = true := by unfold toldB; simp [jd, kd]
              have Htd := Lib.hid htd
              clear htd jd kd
              by_cases kf : f = [63]
              · skip
                have qf := str_yes (s := mk f) (l := [63]) kf
                have Hr : Hid (parseO (bytes s) = buildO [a, b, c, d, e, f, y]) := by
                  show _ = _
                  rw [HHP.out]; rw [cronT_seven, Htd.out, show toldB f = false by rw [kf]; decide]; rfl
                clear kf
                go_wp2_with fail
                go_at_call 78
                refine Hb.out.mono ?_
                rintro en w3 ⟨⟨fs, v, hf, rfl, hF⟩ | ⟨hf, t, p, rfl⟩, hx3⟩
                · have Hf := Lib.hid (Hr.out.trans hf)
                  have HF := Lib.hid (hF.mono (Below.size hx2))
                  clear hf hF
                  go_wp2_with fail
                  go_ret2
                  exact ⟨.inl ⟨fs, v, Hf.out, rfl, HF.out⟩, hx2.trans hx3⟩
                · have Hf := Lib.hid (Hr.out.trans hf)
                  clear hf
                  go_wp2_with fail
                  go_ret2
                  exact ⟨.inr ⟨Hf.out, t, p, rfl⟩, hx2.trans hx3⟩
              · have jf := kf
                clear kf
                by_cases kf : f = [42]
                · skip
                  have qf := str_no (s := mk f) (l := [63]) jf
                  have rf := str_yes (s := mk f) (l := [42]) kf
                  have Hr : Hid (parseO (bytes s) = buildO [a, b, c, d, e, f, y]) := by
                    show _ = _
                    rw [HHP.out]; rw [cronT_seven, Htd.out, show toldB f = false by rw [kf]; decide]; rfl
                  clear kf jf
                  go_wp2_with fail
                  go_at_call 78
                  refine Hb.out.mono ?_
                  rintro en w3 ⟨⟨fs, v, hf, rfl, hF⟩ | ⟨hf, t, p, rfl⟩, hx3⟩
                  · have Hf := Lib.hid (Hr.out.trans hf)
                    have HF := Lib.hid (hF.mono (Below.size hx2))
                    clear hf hF
                    go_wp2_with fail
                    go_ret2
                    exact ⟨.inl ⟨fs, v, Hf.out, rfl, HF.out⟩, hx2.trans hx3⟩
                  · have Hf := Lib.hid (Hr.out.trans hf)
                    clear hf
                    go_wp2_with fail
                    go_ret2
                    exact ⟨.inr ⟨Hf.out, t, p, rfl⟩, hx2.trans hx3⟩
                · skip
                  have qf := str_no (s := mk f) (l := [63]) jf
                  have rf := str_no (s := mk f) (l := [42]) kf
                  have Hr : Hid (parseO (bytes s) = none) := by
                    show _ = _
                    have htf : toldB f = true := by unfold toldB; simp [jf, kf]
                    rw [HHP.out]; rw [cronT_seven, Htd.out, htf]; rfl
                  clear jf kf
                  go_wp2_with fail
                  go_at_call 77
                  refine (new_err _ _ (hE.ext hx2)).mono ?_
                  rintro en w3 ⟨t, p, rfl, hx3⟩
                  go_wp2_with fail
                  go_ret2
                  exact ⟨.inr ⟨Hr.out, t, p, rfl⟩, hx2.trans hx3⟩
        · have h7 : n = 7 := by omega
          subst h7
          obtain ⟨a, b, c, d, e, f, y, hT7⟩ := seven Hn.out.symm
          have hHP : parseO (bytes s) = cronT T := by rw [HP.out, withYear, if_neg (by rw [← Hn.out]; decide)]
          have hmem := HTi.out
          have hst2 : Strs w1 w.heap.size (.slice (some ⟨g, 0, none⟩) 7 cap) T := by have := Hst.out; rwa [← Hn.out] at this
          have hx2 := hx1
          rw [hT7] at hst2 hHP hmem
          clear hT7 Hst Hcell HTi Hn HP
          obtain ⟨g2, cap2, hv2, hg2b, hg2l, hc2⟩ := hst2.form (by simp)
          have c0 := hc2 0 a rfl
          have c1 := hc2 1 b rfl
          have c2 := hc2 2 c rfl
          have c3 := hc2 3 d rfl
          have c4 := hc2 4 e rfl
          have c5 := hc2 5 f rfl
          have c6 := hc2 6 y rfl
          have hbd : a.length ≤ 1000 ∧ b.length ≤ 1000 ∧ c.length ≤ 1000 ∧ d.length ≤ 1000 ∧ e.length ≤ 1000 ∧ f.length ≤ 1000 ∧ y.length ≤ 1000 := by
            have q := fun x hx => Nat.le_trans (hmem x hx) (show 900 ≤ 1000 by decide)
            exact ⟨q a (by simp), q b (by simp), q c (by simp), q d (by simp), q e (by simp), q f (by simp), q y (by simp)⟩
          obtain ⟨rfl, rfl⟩ : g2 = g ∧ cap2 = cap := by injection hv2 with hv2 _ hv3; injection hv2 with hv2; injection hv2 with hv2; exact ⟨hv2.symm, hv3.symm⟩
          have Hbd := Lib.hid hbd
          have HHP := Lib.hid hHP
          have hb := build_any a b c d e f y g2 cap2 _ hbd (hE.ext hx2) c0 c1 c2 c3 c4 c5 c6
          have Hb := Lib.hid hb
          simp only [List.length_cons, List.length_nil] at *
          clear hb hbd hHP hmem hst2 hc2 c0 c1 c2 c4 c6
          by_cases kd : d = [63]
          · skip
            have qd := str_yes (s := mk d) (l := [63]) kd
            have Hr : Hid (parseO (bytes s) = buildO [a, b, c, d, e, f, y]) := by
              show _ = _
              rw [HHP.out]; rw [cronT_seven, show toldB d = false by rw [kd]; decide]; rfl
            clear kd
            go_wp2_with fail
            go_at_call 78
            refine Hb.out.mono ?_
            rintro en w3 ⟨⟨fs, v, hf, rfl, hF⟩ | ⟨hf, t, p, rfl⟩, hx3⟩
            · have Hf := Lib.hid (Hr.out.trans hf)
              have HF := Lib.hid (hF.mono (Below.size hx2))
              clear hf hF
              go_wp2_with fail
              go_ret2
              exact ⟨.inl ⟨fs, v, Hf.out, rfl, HF.out⟩, hx2.trans hx3⟩
            · have Hf := Lib.hid (Hr.out.trans hf)
              clear hf
              go_wp2_with fail
              go_ret2
              exact ⟨.inr ⟨Hf.out, t, p, rfl⟩, hx2.trans hx3⟩
          · have jd := kd
            clear kd
            by_cases kd : d = [42]
            · skip
              have qd := str_no (s := mk d) (l := [63]) jd
              have rd := str_yes (s := mk d) (l := [42]) kd
              have Hr : Hid (parseO (bytes s) = buildO [a, b, c, d, e, f, y]) := by
                show _ = _
                rw [HHP.out]; rw [cronT_seven, show toldB d = false by rw [kd]; decide]; rfl
              clear kd jd
              go_wp2_with fail
              go_at_call 78
              refine Hb.out.mono ?_
              rintro en w3 ⟨⟨fs, v, hf, rfl, hF⟩ | ⟨hf, t, p, rfl⟩, hx3⟩
              · have Hf := Lib.hid (Hr.out.trans hf)
                have HF := Lib.hid (hF.mono (Below.size hx2))
                clear hf hF
                go_wp2_with fail
                go_ret2
                exact ⟨.inl ⟨fs, v, Hf.out, rfl, HF.out⟩, hx2.trans hx3⟩
              · have Hf := Lib.hid (Hr.out.trans hf)
                clear hf
                go_wp2_with fail
                go_ret2
                exact ⟨.inr ⟨Hf.out, t, p, rfl⟩, hx2.trans hx3⟩
            · skip
              have qd := str_no (s := mk d) (l := [63]) jd
              have rd := str_no (s := mk d) (l := [42]) kd
              have htd : toldB d = true := by unfold toldB; simp [jd, kd]
              have Htd := Lib.hid htd
              clear htd jd kd
              by_cases kf : f = [63]
              · skip
                have qf := str_yes (s := mk f) (l := [63]) kf
                have Hr : Hid (parseO (bytes s) = buildO [a, b, c, d, e, f, y]) := by
                  show _ = _
                  rw [HHP.out]; rw [cronT_seven, Htd.out, show toldB f = false by rw [kf]; decide]; rfl
                clear kf
                go_wp2_with fail
                go_at_call 78
                refine Hb.out.mono ?_
                rintro en w3 ⟨⟨fs, v, hf, rfl, hF⟩ | ⟨hf, t, p, rfl⟩, hx3⟩
                · have Hf := Lib.hid (Hr.out.trans hf)
                  have HF := Lib.hid (hF.mono (Below.size hx2))
                  clear hf hF
                  go_wp2_with fail
                  go_ret2
                  exact ⟨.inl ⟨fs, v, Hf.out, rfl, HF.out⟩, hx2.trans hx3⟩
                · have Hf := Lib.hid (Hr.out.trans hf)
                  clear hf
                  go_wp2_with fail
                  go_ret2
                  exact ⟨.inr ⟨Hf.out, t, p, rfl⟩, hx2.trans hx3⟩
              · have jf := kf
                clear kf
                by_cases kf : f = [42]
                · skip
                  have qf := str_no (s := mk f) (l := [63]) jf
                  have rf := str_yes (s := mk f) (l := [42]) kf
                  have Hr : Hid (parseO (bytes s) = buildO [a, b, c, d, e, f, y]) := by
                    show _ = _
                    rw [HHP.out]; rw [cronT_seven, Htd.out, show toldB f = false by rw [kf]; decide]; rfl
                  clear kf jf
                  go_wp2_with fail
                  go_at_call 78
                  refine Hb.out.mono ?_
                  rintro en w3 ⟨⟨fs, v, hf, rfl, hF⟩ | ⟨hf, t, p, rfl⟩, hx3⟩
                  · have Hf := Lib.hid (Hr.out.trans hf)
                    have HF := Lib.hid (hF.mono (Below.size hx2))
                    clear hf hF
                    go_wp2_with fail
                    go_ret2
                    exact ⟨.inl ⟨fs, v, Hf.out, rfl, HF.out⟩, hx2.trans hx3⟩
                  · have Hf := Lib.hid (Hr.out.trans hf)
                    clear hf
                    go_wp2_with fail
                    go_ret2
                    exact ⟨.inr ⟨Hf.out, t, p, rfl⟩, hx2.trans hx3⟩
                · skip
                  have qf := str_no (s := mk f) (l := [63]) jf
                  have rf := str_no (s := mk f) (l := [42]) kf
                  have Hr : Hid (parseO (bytes s) = none) := by
                    show _ = _
                    have htf : toldB f = true := by unfold toldB; simp [jf, kf]
                    rw [HHP.out]; rw [cronT_seven, Htd.out, htf]; rfl
                  clear jf kf
                  go_wp2_with fail
                  go_at_call 77
                  refine (new_err _ _ (hE.ext hx2)).mono ?_
                  rintro en w3 ⟨t, p, rfl, hx3⟩
                  go_wp2_with fail
                  go_ret2
                  exact ⟨.inr ⟨Hr.out, t, p, rfl⟩, hx2.trans hx3⟩
end Go.Proofs.YtmaffdhcmdhjfaaGreatDoor
