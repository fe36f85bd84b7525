/- impl.Fields. -/
import Derived.Test.YtmaffdhcmdhjfaaGreatDoorImpl
namespace Go.Proofs.YtmaffdhcmdhjfaaGreatDoor
open Go.RowKit Go.Lib

/-- what impl.Fields gives -/
def implO (l : List UInt8) : Option (List (List Int × Int)) := if isTextB l then exprO l else none
def ImplPost (w : World) (r : Option (List (List Int × Int))) (en : Ending) (w' : World) : Prop :=
  ((∃ fs v a b, r = some fs ∧ en = .returned (.tuple #[v, .int .i64 (a : Int), .int .i64 (b : Int), .bool true]) ∧ (fs[3]?.map (·.2)) = some a ∧ (fs[5]?.map (·.2)) = some b ∧ IntRows w' w.heap.size v (fs.map (·.1))) ∨
    (r = none ∧ en = .returned (.tuple #[.slice none 0 0, .int .i64 0, .int .i64 0, .bool false]))) ∧ Ext w w'

set_option maxHeartbeats 800000 in
theorem impl_fields (s : ByteArray) (w : World) (hs : s.size ≤ 100000000) (hE : Env w) :
    Calls Tryz.prog 15 #[.string s] w fun e w' => ImplPost w (implO (bytes s)) e w' := by
  go_enter Tryz.func15, Tryz.ntmps15
  go_wp2_with fail
  go_at_call 38
  refine (is_text s _ hs).mono ?_
  rintro e w1 ⟨rfl, rfl⟩
  rcases ht : isTextB (bytes s)
  · have Hr : Hid (implO (bytes s) = none) := by show _ = _; unfold implO; rw [ht]; rfl
    clear ht
    go_wp2_with fail
    exact bodyPost_ret (v := .tuple #[.slice none 0 0, .int .i64 0, .int .i64 0, .bool false]) (by simp [results, Tryz.results15, go_sem]) rfl ⟨.inr ⟨Hr.out, rfl⟩, Ext.refl _⟩
  · have hl := isText_len ht
    rw [bytes_length] at hl
    have Hi : Hid (implO (bytes s) = exprO (bytes s)) := by show _ = _; unfold implO; rw [ht]; rfl
    clear ht
    go_wp2_with fail
    go_at_call 39
    refine (zz_fields s _ (by omega) hE).mono ?_
    rintro e w1 (⟨fs, hf, v, a, b, rfl, ha, hb, hR, hx⟩ | ⟨hf, t, p, rfl, hx⟩)
    · have Hr := Lib.hid (Hi.out.trans hf)
      have Ha := Lib.hid ha
      have Hb := Lib.hid hb
      obtain ⟨a8, c8, h8⟩ := own_any hR.choose_spec.1
      obtain ⟨m8, hm8⟩ : ∃ m, m = (fs.map (·.1)).length := ⟨_, rfl⟩
      rw [← hm8] at h8
      subst h8
      have HR := Lib.hid hR
      clear hf ha hb hR hm8
      go_wp2_with fail
      exact bodyPost_ret (v := .tuple #[.slice a8 m8 c8, .int .i64 a, .int .i64 b, .bool true]) (by simp [results, Tryz.results15, go_sem]) rfl ⟨.inl ⟨fs, _, _, _, Hr.out, rfl, Ha.out, Hb.out, HR.out⟩, hx⟩
    · have Hr := Lib.hid (Hi.out.trans hf)
      clear hf
      go_wp2_with fail
      exact bodyPost_ret (v := .tuple #[.slice none 0 0, .int .i64 0, .int .i64 0, .bool false]) (by simp [results, Tryz.results15, go_sem]) rfl ⟨.inr ⟨Hr.out, rfl⟩, hx⟩
end Go.Proofs.YtmaffdhcmdhjfaaGreatDoor
